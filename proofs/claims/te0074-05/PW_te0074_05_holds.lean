import PyProof.Rows.All
import Wide.All
import OpenK.AllK
import Wide.FinOn
import PySem.Challenge.RW_te0074_05
open PySem PySem.W PyProof.Rows
set_option Elab.async false
namespace Mine
open PySem.Builtin PySem.Builtin.Str PySem.StrLaws

/-- a text by its code points -/
abbrev S (l : List Nat) : Str := ⟨l.toArray⟩
theorem S_list (l : List Nat) : (S l).cps.toList = l := rfl
theorem S_len (l : List Nat) : (S l).length = l.length := by simp [PySem.Str.length]
theorem S_app (a b : List Nat) : S a ++ S b = S (a ++ b) := PySem.Str.ext' (by simp [PySem.Str.cps_append])
theorem S_of (x : Str) : x = S x.cps.toList := PySem.Str.ext' (by simp)
theorem S_inj {a b : List Nat} : S a = S b ↔ a = b := by
  constructor
  · intro h
    have := congrArg (fun x : Str => x.cps.toList) h
    simpa using this
  · rintro rfl; rfl

/-! ### where a text stands in another -/
def hit (x y : Str) (hi i : Nat) : Bool := decide (i + y.length ≤ hi) && subAt x y i
def NoLap (x y : Str) (hi : Nat) : Prop := ∀ i j, hit x y hi i = true → hit x y hi j = true → i < j → i + y.length ≤ j

theorem occ_run (x y : Str) (hi limit : Nat) (hn : NoLap x y hi) : ∀ (n a : Nat) (st : Array Nat) (free : Nat),
    (∀ i, a ≤ i → hit x y hi i = true → free ≤ i) → st.size + n ≤ limit →
    (forIn (List.range' a n) (st, free) (occBody x y hi limit)).run.fst.toList = st.toList ++ (List.range' a n).filter (hit x y hi)
  | 0, a, st, free, _, _ => by simp
  | n + 1, a, st, free, hf, hl => by
    rw [List.range'_succ, List.forIn_cons]
    unfold occBody
    by_cases hh : hit x y hi a = true
    · have h1 : (a + y.length ≤ hi) ∧ subAt x y a = true := by simpa [hit] using hh
      have h2 := hf a (Nat.le_refl _) hh
      rw [if_pos ⟨⟨⟨by show st.size < limit; lia, h2⟩, h1.1⟩, h1.2⟩]
      have := occ_run x y hi limit hn n (a + 1) (st.push a) (a + y.length) (fun i hi' hq => hn a i hh hq (by lia)) (by simp only [Array.size_push]; lia)
      simp only [List.filter_cons, hh, if_true]
      show (forIn (List.range' (a + 1) n) (st.push a, a + y.length) (occBody x y hi limit)).run.fst.toList = _
      rw [this]
      simp
    · have h1 : ¬ (((((st, free) : Array Nat × Nat).fst.size < limit ∧ ((st, free) : Array Nat × Nat).snd ≤ a) ∧ a + y.length ≤ hi) ∧ subAt x y a = true) := by
        intro h
        exact hh (by simp [hit, h.1.2, h.2])
      rw [if_neg h1]
      have := occ_run x y hi limit hn n (a + 1) st free (fun i hi' hq => hf i (by lia) hq) (by lia)
      simp only [List.filter_cons, hh]
      show (forIn (List.range' (a + 1) n) (st, free) (occBody x y hi limit)).run.fst.toList = _
      rw [this]
      simp

theorem occ_filter (x y : Str) (hi limit : Nat) (hn : NoLap x y hi) (hl : hi + 1 ≤ limit) : occurrences x y 0 hi limit = (List.range' 0 (hi + 1)).filter (hit x y hi) := by
  rw [occ_eq]
  have := occ_run x y hi limit hn (hi + 1) 0 #[] 0 (fun i _ _ => Nat.zero_le _) (by simp; lia)
  simpa using this

theorem last_run (x y : Str) (hi : Nat) : ∀ (n a : Nat) (st : Option Nat),
    (forIn (List.range' a n) st (lastBody x y hi)).run = (((List.range' a n).filter (hit x y hi)).getLast?).or st
  | 0, a, st => by simp
  | n + 1, a, st => by
    rw [List.range'_succ, List.forIn_cons]
    unfold lastBody
    by_cases hh : hit x y hi a = true
    · have h1 : (a + y.length ≤ hi) ∧ subAt x y a = true := by simpa [hit] using hh
      rw [if_pos (by simpa using h1)]
      have := last_run x y hi n (a + 1) (some a)
      simp only [List.filter_cons, hh, if_true]
      show (forIn (List.range' (a + 1) n) (some a) (lastBody x y hi)).run = _
      rw [this, List.getLast?_cons]
      cases ((List.range' (a + 1) n).filter (hit x y hi)).getLast? <;> simp
    · have h1 : ¬ ((a + y.length ≤ hi) ∧ subAt x y a = true) := fun h => hh (by simp [hit, h.1, h.2])
      rw [if_neg (by simpa using h1)]
      have := last_run x y hi n (a + 1) st
      simp only [List.filter_cons, hh]
      show (forIn (List.range' (a + 1) n) st (lastBody x y hi)).run = _
      rw [this]
      simp

theorem last_filter (x y : Str) (hi : Nat) : lastOccurrence x y 0 hi = ((List.range' 0 (hi + 1)).filter (hit x y hi)).getLast? := by
  rw [last_eq]
  have := last_run x y hi (hi + 1) 0 none
  simpa using this

theorem hit_one (l : List Nat) (c hi i : Nat) (hl : hi ≤ l.length) : hit (S l) ⟨#[c]⟩ hi i = (decide (i < hi) && (l[i]? == some c)) := by
  unfold hit
  have e1 : (⟨#[c]⟩ : Str).length = 1 := rfl
  rw [e1, subAt_eq, e1]
  by_cases h : i < hi
  · have h2 : i < l.length := by lia
    have e : ((S l).cps.toList.drop i).take 1 = [l[i]] := by
      rw [S_list, List.drop_eq_getElem_cons h2]; rfl
    rw [e, List.getElem?_eq_getElem h2]
    simp [h, Nat.succ_le_iff]
  · simp [h, Nat.succ_le_iff]

theorem nolap_one (x : Str) (c hi : Nat) : NoLap x ⟨#[c]⟩ hi := fun i j _ _ h => h

theorem hits_one (l : List Nat) (c hi : Nat) (hl : hi ≤ l.length) : (List.range' 0 (hi + 1)).filter (hit (S l) ⟨#[c]⟩ hi) = (List.range hi).filter (fun i => l[i]? == some c) := by
  have e : List.range' 0 (hi + 1) = List.range hi ++ [hi] := by rw [← List.range_eq_range', List.range_succ]
  rw [e, List.filter_append]
  have e2 : [hi].filter (hit (S l) ⟨#[c]⟩ hi) = [] := by
    simp [hit_one l c hi hi hl]
  rw [e2, List.append_nil]
  refine List.filter_congr fun i hi' => ?_
  rw [hit_one l c hi i hl]
  simp [List.mem_range.mp hi']

theorem count_one (l : List Nat) (c hi limit : Nat) (hl : hi ≤ l.length) (hlim : hi + 1 ≤ limit) : (occurrences (S l) ⟨#[c]⟩ 0 hi limit).length = (l.take hi).count c := by
  rw [occ_filter _ _ _ _ (nolap_one _ _ _) hlim, hits_one l c hi hl]
  clear hlim limit
  induction hi with
  | zero => simp
  | succ k ih =>
    have hk : k < l.length := by lia
    rw [List.range_succ, List.filter_append, List.length_append, ih (by lia), List.take_add_one, List.count_append, List.getElem?_eq_getElem hk]
    by_cases e : l[k] = c <;> simp [hk, e]

/-! ### lines and columns -/
def adv (p : Nat × Nat) (c : Nat) : Nat × Nat := if c = 10 then (p.1 + 1, 0) else (p.1, p.2 + 1)

theorem lines_of (l : List Nat) (hi : Nat) (p : Nat × Nat) (hl : hi ≤ l.length) :
    p.1 + (l.take hi).count 10 = ((l.take hi).foldl adv p).1 := by
  induction hi with
  | zero => simp
  | succ k ih =>
    have hk : k < l.length := by lia
    rw [List.take_add_one, List.count_append, List.foldl_append, List.getElem?_eq_getElem hk]
    have := ih (by lia)
    by_cases e : l[k] = 10 <;> simp [adv, e] <;> lia

theorem cols_of (l : List Nat) (hi : Nat) (p : Nat × Nat) (hl : hi ≤ l.length) :
    (match lastOccurrence (S l) ⟨#[10]⟩ 0 hi with | some i => hi - (i + 1) | none => p.2 + hi) = ((l.take hi).foldl adv p).2 := by
  rw [last_filter, hits_one l 10 hi hl]
  induction hi with
  | zero => simp
  | succ k ih =>
    have hk : k < l.length := by lia
    rw [List.range_succ, List.filter_append, List.take_add_one, List.foldl_append, List.getElem?_eq_getElem hk]
    have := ih (by lia)
    by_cases e : l[k] = 10
    · simp [adv, e, hk]
    · have e2 : [k].filter (fun i => l[i]? == some 10) = [] := by simp [hk, e]
      rw [e2, List.append_nil]
      simp only [Option.toList_some, List.foldl_cons, List.foldl_nil, adv, if_neg e]
      rw [← this]
      cases hq : ((List.range k).filter (fun i => l[i]? == some 10)).getLast? with
      | none => simp; lia
      | some i =>
        have hi := List.mem_of_getLast? hq
        have : i < k := by simpa using (List.mem_filter.mp hi).1
        simp; lia

theorem last_lt (l : List Nat) (c hi i : Nat) (hl : hi ≤ l.length) (h : lastOccurrence (S l) ⟨#[c]⟩ 0 hi = some i) : i < hi := by
  rw [last_filter, hits_one l c hi hl] at h
  have hi := List.mem_of_getLast? h
  simpa using (List.mem_filter.mp hi).1

/-! ### replace -/
def G (x y z : Str) (a : Nat) : List Nat := (PySem.Str.join z (partsFrom x y.length a ((List.range' a (x.length + 1 - a)).filter (hit x y x.length)))).cps.toList

theorem join_cons (z p : Str) : ∀ r : List Str, r ≠ [] → (PySem.Str.join z (p :: r)).cps.toList = p.cps.toList ++ z.cps.toList ++ (PySem.Str.join z r).cps.toList
  | [], h => absurd rfl h
  | q :: r, _ => by
    show ((p ++ z ++ PySem.Str.join z (q :: r)).cps).toList = _
    simp [PySem.Str.cps_append]

theorem parts_ne (x : Str) (w a : Nat) (cuts : List Nat) : partsFrom x w a cuts ≠ [] := by
  cases cuts <;> simp [partsFrom]

theorem G_hit {x y z : Str} {a : Nat} (hn : NoLap x y x.length) (h : hit x y x.length a = true) (hw : 1 ≤ y.length) : G x y z a = z.cps.toList ++ G x y z (a + y.length) := by
  have h1 : a + y.length ≤ x.length := by have := h; simp [hit] at this; exact this.1
  unfold G
  have e : (List.range' a (x.length + 1 - a)).filter (hit x y x.length) = a :: (List.range' (a + y.length) (x.length + 1 - (a + y.length))).filter (hit x y x.length) := by
    have e1 : x.length + 1 - a = y.length + (x.length + 1 - (a + y.length)) := by rw [← Nat.sub_sub, Nat.add_sub_cancel' (Nat.le_sub_of_add_le' (Nat.le_succ_of_le h1))]
    rw [e1, ← List.range'_append_1, List.filter_append]
    have e2 : (List.range' a y.length).filter (hit x y x.length) = [a] := by
      obtain ⟨k, hk⟩ : ∃ k, y.length = k + 1 := ⟨y.length - 1, by lia⟩
      rw [hk, List.range'_succ, List.filter_cons, if_pos h]
      have : (List.range' (a + 1) k).filter (hit x y x.length) = [] := by
        refine List.filter_eq_nil_iff.mpr fun i hi hq => ?_
        have hm := List.mem_range'_1.mp hi
        have := hn a i h hq (by lia)
        lia
      rw [this]
    rw [e2]; rfl
  rw [e]
  show (PySem.Str.join z (strSub x a a :: partsFrom x y.length (a + y.length) _)).cps.toList = _
  rw [join_cons _ _ _ (parts_ne _ _ _ _), strSub_toList]
  simp

theorem parts_step (x : Str) (w a : Nat) (cuts : List Nat) (z : Str) (ha : a < x.length) (hc : ∀ c ∈ cuts, a + 1 ≤ c) :
    (PySem.Str.join z (partsFrom x w a cuts)).cps.toList = x.cps.toList[a]'(by simpa [PySem.Str.length] using ha) :: (PySem.Str.join z (partsFrom x w (a + 1) cuts)).cps.toList := by
  have hx : a < x.cps.toList.length := by simpa [PySem.Str.length] using ha
  have sub1 : ∀ c, a + 1 ≤ c → (strSub x a c).cps.toList = x.cps.toList[a] :: (strSub x (a + 1) c).cps.toList := by
    intro c hc
    rw [strSub_toList, strSub_toList, List.drop_eq_getElem_cons hx]
    rw [show c - a = c - (a + 1) + 1 by rw [← Nat.sub_sub, Nat.sub_add_cancel (Nat.le_sub_of_add_le' hc)], List.take_succ_cons]
  cases cuts with
  | nil =>
    show (strSub x a x.length).cps.toList = _ :: (strSub x (a + 1) x.length).cps.toList
    exact sub1 _ (by lia)
  | cons c r =>
    show (PySem.Str.join z (strSub x a c :: partsFrom x w (c + w) r)).cps.toList = _ :: (PySem.Str.join z (strSub x (a + 1) c :: partsFrom x w (c + w) r)).cps.toList
    rw [join_cons _ _ _ (parts_ne _ _ _ _), join_cons _ _ _ (parts_ne _ _ _ _), sub1 c (hc c (.head _))]
    rfl

theorem G_miss {x y z : Str} {a : Nat} (h : ¬ hit x y x.length a = true) (ha : a < x.length) : G x y z a = x.cps.toList[a]'(by simpa [PySem.Str.length] using ha) :: G x y z (a + 1) := by
  unfold G
  have e : (List.range' a (x.length + 1 - a)).filter (hit x y x.length) = (List.range' (a + 1) (x.length + 1 - (a + 1))).filter (hit x y x.length) := by
    have e1 : x.length + 1 - a = (x.length + 1 - (a + 1)) + 1 := by rw [← Nat.sub_sub, Nat.sub_add_cancel (Nat.le_sub_of_add_le' (Nat.succ_le_succ (Nat.le_of_lt ha)))]
    rw [e1, List.range'_succ, List.filter_cons, if_neg h]
  rw [e]
  refine parts_step x _ a _ z ha fun c hc => ?_
  have := (List.mem_filter.mp hc).1
  exact (List.mem_range'_1.mp this).1

theorem G_end {x y z : Str} (hw : 1 ≤ y.length) : G x y z x.length = [] := by
  unfold G
  have e : (List.range' x.length (x.length + 1 - x.length)).filter (hit x y x.length) = [] := by
    refine List.filter_eq_nil_iff.mpr fun i hi hq => ?_
    have hm := List.mem_range'_1.mp hi
    simp [hit] at hq
    lia
  rw [e]
  show (strSub x x.length x.length).cps.toList = []
  rw [strSub_toList]; simp

theorem replace_G {x y z : Str} (hn : NoLap x y x.length) (hw : 1 ≤ y.length) : (Txt.replace x y z).cps.toList = G x y z 0 := by
  unfold Txt.replace G
  rw [occ_filter x y x.length _ hn (Nat.le_refl _)]
  have hy : (y.length == 0) = false := by simp; lia
  rw [hy, Bool.false_and, Bool.or_false, Nat.sub_zero]
  cases hc : (List.range' 0 (x.length + 1)).filter (hit x y x.length) with
  | nil =>
    show x.cps.toList = (strSub x 0 x.length).cps.toList
    rw [strSub_toList, List.drop_zero, Nat.sub_zero, List.take_of_length_le (by simp [PySem.Str.length])]
  | cons c r =>
    show (glued z (partsBetween x (c :: r) y.length)).cps.toList = _
    rw [glued_eq_join, partsBetween_eq]

/-- CR LF to LF -/
def crlf : List Nat → List Nat
  | [] => []
  | [c] => [c]
  | c :: d :: t => if c = 13 ∧ d = 10 then 10 :: crlf t else c :: crlf (d :: t)
/-- CR to LF -/
def crs (l : List Nat) : List Nat := l.map fun c => if c = 13 then 10 else c
/-- line ends mended -/
def norm (l : List Nat) : List Nat := crs (crlf l)

theorem hit_crlf (l : List Nat) (i : Nat) : hit (S l) ⟨#[13, 10]⟩ (S l).length i = true ↔ l[i]? = some 13 ∧ l[i + 1]? = some 10 := by
  unfold hit
  have e1 : (⟨#[13, 10]⟩ : Str).length = 2 := rfl
  have e0 : (⟨#[13, 10]⟩ : Str).cps.toList = [13, 10] := rfl
  rw [e1, subAt_eq, e1, S_list, S_len, e0]
  by_cases h : i + 2 ≤ l.length
  · have h1 : i < l.length := by lia
    have h2 : i + 1 < l.length := by lia
    rw [List.drop_eq_getElem_cons h1, List.drop_eq_getElem_cons h2, List.getElem?_eq_getElem h1, List.getElem?_eq_getElem h2]
    simp only [h, decide_true, Bool.true_and, List.take_succ_cons, List.take_zero, beq_iff_eq, List.cons.injEq, and_true, Option.some.injEq]
  · simp only [h, decide_false, Bool.false_and, Bool.false_eq_true, false_iff, not_and]
    intro _
    rw [List.getElem?_eq_none (by lia)]
    simp

theorem nolap_crlf (l : List Nat) : NoLap (S l) ⟨#[13, 10]⟩ (S l).length := by
  intro i j hi hj hij
  have e1 : (⟨#[13, 10]⟩ : Str).length = 2 := rfl
  rw [e1]
  have h1 := (hit_crlf l i).mp hi
  have h2 := (hit_crlf l j).mp hj
  rcases Nat.lt_or_ge j (i + 2) with h | h
  · have : j = i + 1 := by lia
    subst this
    rw [h1.2] at h2
    cases h2.1
  · exact h

theorem G_crlf (l : List Nat) : ∀ (k a : Nat), a + k = l.length → G (S l) ⟨#[13, 10]⟩ ⟨#[10]⟩ a = crlf (l.drop a) := by
  intro k
  induction k using Nat.strongRecOn with
  | ind k ih =>
    intro a hk
    have hlen : (S l).length = l.length := S_len l
    rcases Nat.eq_zero_or_pos k with h0 | h0
    · have : a = (S l).length := by lia
      rw [this, G_end (by show 1 ≤ 2; lia), hlen, List.drop_length]
      rfl
    · have ha : a < l.length := by lia
      by_cases hh : hit (S l) ⟨#[13, 10]⟩ (S l).length a = true
      · obtain ⟨h1, h2⟩ := (hit_crlf l a).mp hh
        have ha2 : a + 1 < l.length := by
          rcases Nat.lt_or_ge (a + 1) l.length with h | h
          · exact h
          · rw [List.getElem?_eq_none h] at h2; cases h2
        rw [G_hit (nolap_crlf l) hh (by show 1 ≤ 2; lia)]
        show [10] ++ G (S l) ⟨#[13, 10]⟩ ⟨#[10]⟩ (a + 2) = _
        rw [ih (k - 2) (by lia) (a + 2) (by lia)]
        rw [List.drop_eq_getElem_cons ha, List.drop_eq_getElem_cons ha2]
        rw [List.getElem?_eq_getElem ha] at h1
        rw [List.getElem?_eq_getElem ha2] at h2
        simp only [Option.some.injEq] at h1 h2
        simp [crlf, h1, h2]
      · rw [G_miss hh (by rw [hlen]; exact ha), ih (k - 1) (by lia) (a + 1) (by lia), List.drop_eq_getElem_cons ha]
        have hq : ¬ (l[a]? = some 13 ∧ l[a + 1]? = some 10) := fun q => hh ((hit_crlf l a).mpr q)
        rw [List.getElem?_eq_getElem ha] at hq
        rcases Nat.lt_or_ge (a + 1) l.length with h | h
        · rw [List.getElem?_eq_getElem h] at hq
          simp only [Option.some.injEq] at hq
          rw [List.drop_eq_getElem_cons h]
          show _ = crlf (l[a] :: l[a + 1] :: _)
          rw [crlf, if_neg hq]
        · rw [List.drop_eq_nil_of_le h]
          rfl

theorem replace_crlf (l : List Nat) : Txt.replace (S l) ⟨#[13, 10]⟩ ⟨#[10]⟩ = S (crlf l) := by
  have h := replace_G (z := ⟨#[10]⟩) (nolap_crlf l) (by show 1 ≤ 2; lia)
  rw [G_crlf l l.length 0 (by lia), List.drop_zero] at h
  rw [S_of (Txt.replace _ _ _), h]

theorem hit_one' (l : List Nat) (c i : Nat) : hit (S l) ⟨#[c]⟩ (S l).length i = true ↔ l[i]? = some c := by
  rw [S_len, hit_one l c l.length i (Nat.le_refl _)]
  constructor
  · intro h; simp at h; simpa using h.2
  · intro h
    have : i < l.length := by
      rcases Nat.lt_or_ge i l.length with q | q
      · exact q
      · rw [List.getElem?_eq_none q] at h; cases h
    simp [this]
    rw [List.getElem?_eq_getElem this] at h
    simpa using h

theorem G_cr (l : List Nat) : ∀ (k a : Nat), a + k = l.length → G (S l) ⟨#[13]⟩ ⟨#[10]⟩ a = crs (l.drop a) := by
  intro k
  induction k with
  | zero =>
    intro a hk
    have : a = (S l).length := by rw [S_len]; lia
    rw [this, G_end (by show 1 ≤ 1; lia), S_len, List.drop_length]
    rfl
  | succ k ih =>
    intro a hk
    have ha : a < l.length := by lia
    rw [List.drop_eq_getElem_cons ha]
    by_cases hh : hit (S l) ⟨#[13]⟩ (S l).length a = true
    · have h1 := (hit_one' l 13 a).mp hh
      rw [List.getElem?_eq_getElem ha] at h1
      simp only [Option.some.injEq] at h1
      rw [G_hit (nolap_one _ _ _) hh (by show 1 ≤ 1; lia)]
      show [10] ++ G (S l) ⟨#[13]⟩ ⟨#[10]⟩ (a + 1) = _
      rw [ih (a + 1) (by lia)]
      simp [crs, h1]
    · have hq : ¬ l[a]? = some 13 := fun q => hh ((hit_one' l 13 a).mpr q)
      rw [List.getElem?_eq_getElem ha] at hq
      simp only [Option.some.injEq] at hq
      rw [G_miss hh (by rw [S_len]; exact ha), ih (a + 1) (by lia)]
      show l[a] :: crs (l.drop (a + 1)) = (if l[a] = 13 then 10 else l[a]) :: crs (l.drop (a + 1))
      rw [if_neg hq]

theorem replace_cr (l : List Nat) : Txt.replace (S l) ⟨#[13]⟩ ⟨#[10]⟩ = S (crs l) := by
  have h := replace_G (z := ⟨#[10]⟩) (nolap_one (S l) 13 _) (by show 1 ≤ 1; lia)
  rw [G_cr l l.length 0 (by lia), List.drop_zero] at h
  rw [S_of (Txt.replace _ _ _), h]

theorem rlt {xx0 dd0 cc0 aa0 nn0 : Nat} (hh0 : dd0 + aa0 < nn0) (ee0 : xx0 = dd0 + cc0) (bb0 : Nat.ble cc0 aa0 = true) : xx0 < nn0 := by
  subst ee0
  exact Nat.lt_of_le_of_lt (Nat.add_le_add_left (Nat.le_of_ble_eq_true bb0) dd0) hh0
theorem roomz {dd0 aa0 nn0 : Nat} (hh0 : dd0 + aa0 < nn0) (bb0 : Nat.ble 0 aa0 = true) : dd0 < nn0 := rlt hh0 rfl bb0
theorem room0 {dd0 aa0 xx0 nn0 : Nat} (hh0 : dd0 + aa0 < nn0) (bb0 : Nat.ble xx0 aa0 = true) : dd0 + xx0 < nn0 := rlt hh0 rfl bb0
theorem room1 {dd0 aa0 xx0 nn0 : Nat} (hh0 : dd0 + aa0 < nn0) (bb0 : Nat.ble (1 + xx0) aa0 = true) : dd0 + 1 + xx0 < nn0 := rlt hh0 (Nat.add_assoc dd0 1 xx0) bb0
theorem room3 {dd0 aa0 xx0 nn0 : Nat} (hh0 : dd0 + aa0 < nn0) (bb0 : Nat.ble (3 + xx0) aa0 = true) : dd0 + 1 + 1 + 1 + xx0 < nn0 := rlt hh0 (Nat.add_assoc dd0 3 xx0) bb0
theorem lit1 {m' : PySem.Str → Option Value} {z x : PySem.Str} {v r : Option Value} (hv : m' x = v) (h : z ≠ x → m' z = r) : m' z = if z = x then v else r := by
  by_cases e : z = x
  · rw [if_pos e, e, hv]
  · rw [if_neg e]
    exact h e
theorem le3 {nn0 mm0 kk0 : Nat} (hh0 : nn0 ≤ mm0) (bb0 : Nat.ble mm0 kk0 = true) : nn0 ≤ kk0 := Nat.le_trans hh0 (Nat.le_of_ble_eq_true bb0)
/-- a fact kept from lia -/
def Hid (p : Prop) : Prop := p
end Mine
namespace Mine
open PySem.Builtin PySem.Builtin.Str PySem.StrLaws PySem.Calls

/-! ### slices -/
def clipI (n : Nat) (i : Int) : Nat := (max 0 (min (if i < 0 then i + n else i) (n : Int))).toNat
def loI (n : Nat) : Option Int → Nat | none => 0 | some i => clipI n i
def hiI (n : Nat) : Option Int → Nat | none => n | some i => clipI n i
theorem clipI_le (n : Nat) (i : Int) : clipI n i ≤ n := Int.toNat_le.mpr (Int.max_le.mpr ⟨Int.natCast_nonneg n, Int.min_le_right _ _⟩)
theorem clip_nat (k n : Nat) : max 0 (min (k : Int) (n : Int)) = ((min k n : Nat) : Int) := by
  rw [Int.max_eq_right (Int.le_min.mpr ⟨Int.natCast_nonneg k, Int.natCast_nonneg n⟩)]
  rcases Nat.le_total k n with h | h
  · rw [Nat.min_eq_left h, Int.min_eq_left (Int.ofNat_le.mpr h)]
  · rw [Nat.min_eq_right h, Int.min_eq_right (Int.ofNat_le.mpr h)]
theorem not_neg (k : Nat) : ¬ ((k : Int) < 0) := Int.not_lt.mpr (Int.natCast_nonneg k)
theorem clipI_nat (n k : Nat) : clipI n (k : Int) = min k n := by
  unfold clipI
  rw [if_neg (not_neg k), clip_nat, Int.toNat_natCast]
theorem loI_le (n : Nat) (o : Option Int) : loI n o ≤ n := by cases o <;> simp [loI, clipI_le]
theorem hiI_le (n : Nat) (o : Option Int) : hiI n o ≤ n := by cases o <;> simp [hiI, clipI_le]

theorem idx_clip (lo hi : Option Int) (n : Nat) : strSliceIndices lo hi 1 n = strSliceIndices (some (loI n lo : Int)) (some (hiI n hi : Int)) 1 n := by
  unfold strSliceIndices
  have g : ∀ k : Nat, k ≤ n → (max 0 (min (if (k : Int) < 0 then (k : Int) + n else k) (n : Int))) = k := by intro k hk; rw [if_neg (not_neg k), clip_nat, Nat.min_eq_left hk]
  have e1 : (max 0 (min (if ((loI n lo : Nat) : Int) < 0 then ((loI n lo : Nat) : Int) + n else ((loI n lo : Nat) : Int)) (n : Int))) = (loI n lo : Nat) := g _ (loI_le n lo)
  have e2 : (max 0 (min (if ((hiI n hi : Nat) : Int) < 0 then ((hiI n hi : Nat) : Int) + n else ((hiI n hi : Nat) : Int)) (n : Int))) = (hiI n hi : Nat) := g _ (hiI_le n hi)
  have p : ((1 : Int) > 0) = True := by simp
  simp only [p, if_true, e1, e2]
  congr 1
  · cases lo with
    | none => simp [loI]
    | some i => exact (Int.toNat_of_nonneg (Int.le_max_left _ _)).symm
  · cases hi with
    | none => simp [hiI]
    | some i => exact (Int.toNat_of_nonneg (Int.le_max_left _ _)).symm

theorem slice_S (l : List Nat) (lo hi : Option Int) : Txt.slice (S l) lo hi = S ((l.take (hiI l.length hi)).drop (loI l.length lo)) := by
  unfold Txt.slice
  rw [S_len, idx_clip]
  have h1 := loI_le l.length lo
  have h2 := hiI_le l.length hi
  generalize loI l.length lo = a at *
  generalize hiI l.length hi = b at *
  by_cases hab : a ≤ b
  · rw [show strSliceIndices (some (a : Int)) (some (b : Int)) 1 l.length = (List.range (b - a)).map (fun k => a + k) from strSliceIndices_plain hab h2]
    have hp := picks l (b - a) a (by lia)
    have hp' : (List.map (fun k => a + k) (List.range (b - a))).filterMap ((S l).cps[·]?) = (l.take b).drop a := by
      rw [List.drop_take]
      simpa using hp
    rw [hp']
    split
    · rename_i h
      have : b - a = l.length := by simpa using h
      have ha : a = 0 := by lia
      have hb : b = l.length := by lia
      subst ha; subst hb
      simp
    · rfl
  · have e : strSliceIndices (some (a : Int)) (some (b : Int)) 1 l.length = [] := by
      have g1 := not_neg a
      have g2 := not_neg b
      have g3 : ¬ (max 0 (min (a : Int) (l.length : Int)) < max 0 (min (b : Int) (l.length : Int))) := by rw [clip_nat, clip_nat, Nat.min_eq_left h1, Nat.min_eq_left h2]; exact fun h => hab (Nat.le_of_lt (Int.ofNat_lt.mp h))
      simp only [strSliceIndices, sliceRange, g1, g2, if_false, g3, show ((1 : Int) > 0) = True from by simp, if_true]
      rfl
    rw [e]
    have : (l.take b).drop a = [] := List.drop_eq_nil_of_le (by simp; lia)
    rw [this]
    split
    · rename_i h
      have : 0 = l.length := by simpa using h
      rw [List.eq_nil_of_length_eq_zero this.symm]
    · rfl

theorem slice_drop (l : List Nat) (n : Nat) : Txt.slice (S l) (some (n : Int)) none = S (l.drop n) := by
  rw [slice_S]
  have : loI l.length (some (n : Int)) = min n l.length := clipI_nat _ _
  rw [this]
  show S ((l.take l.length).drop _) = _
  rw [List.take_length]
  rcases Nat.le_total n l.length with h | h
  · rw [Nat.min_eq_left h]
  · rw [Nat.min_eq_right h, List.drop_length, List.drop_eq_nil_of_le h]
theorem slice_part (l : List Nat) (a n : Nat) : Txt.slice (S l) (some (a : Int)) (some ((a : Int) + (n : Int))) = S ((l.drop a).take n) := by
  rw [slice_S]
  have e1 : loI l.length (some (a : Int)) = min a l.length := clipI_nat _ _
  have e2 : hiI l.length (some ((a : Int) + n)) = min (a + n) l.length := clipI_nat _ (a + n)
  rw [e1, e2]
  congr 2
  rcases Nat.le_total a l.length with h | h
  · rw [Nat.min_eq_left h]
    rcases Nat.le_total (a + n) l.length with h2 | h2
    · rw [Nat.min_eq_left h2, List.drop_take, Nat.add_sub_cancel_left]
    · rw [Nat.min_eq_right h2, List.take_length, List.take_of_length_le (by rw [List.length_drop]; exact Nat.sub_le_iff_le_add'.mpr h2)]
  · rw [Nat.min_eq_right h, List.drop_eq_nil_of_le (List.length_take_le' _ _), List.drop_eq_nil_of_le h, List.take_nil]
theorem slice_mid (l : List Nat) (a b : Nat) : Txt.slice (S l) (some (a : Int)) (some (b : Int)) = S ((l.take b).drop a) := by
  rw [slice_S]
  have e1 : loI l.length (some (a : Int)) = min a l.length := clipI_nat _ _
  have e2 : hiI l.length (some (b : Int)) = min b l.length := clipI_nat _ _
  rw [e1, e2]
  have q : l.take (min b l.length) = l.take b := by
    rcases Nat.le_total b l.length with h | h
    · rw [Nat.min_eq_left h]
    · rw [Nat.min_eq_right h, List.take_length, List.take_of_length_le h]
  rw [q]
  rcases Nat.le_total a l.length with h | h
  · rw [Nat.min_eq_left h]
  · rw [Nat.min_eq_right h, List.drop_eq_nil_of_le (List.length_take_le' _ _), List.drop_eq_nil_of_le (Nat.le_trans (List.length_take_le' _ _) h)]
theorem slice_init (l : List Nat) : Txt.slice (S l) none (some (-1)) = S l.dropLast := by
  rw [slice_S]
  have e2 : ∀ n : Nat, hiI n (some (-1)) = n - 1 := fun n => by
    cases n with
    | zero => rfl
    | succ m =>
      show clipI _ _ = _
      unfold clipI
      rw [if_pos (by decide), show (-1 : Int) + ((m + 1 : Nat) : Int) = (m : Int) by lia, clip_nat, Nat.min_eq_left (Nat.le_succ m)]
      rfl
  rw [e2]
  show S ((l.take _).drop 0) = _
  rw [List.drop_zero, List.dropLast_eq_take]

/-! ### str.count, str.rfind with both bounds -/
section
variable {prog : Program} {w : World} {A : Around} {E : Value → Shared → Prop} {s : Shared} {x y : Str} {t u v v' : Tok} {Q : Value → Shared → Prop}
theorem gives_count4 (x y : Str) (hi : Nat) (t u v v' : Tok) (h : hi ≤ x.length) : Gives («str.count» ⟨[.str x t, .str y u, .int 0 v, .int (hi : Int) v'], []⟩) (.int (occurrences x y 0 hi (x.length + 1)).length) := by
  have e : min (max 0 (if (hi : Int) < 0 then (hi : Int) + x.length else (hi : Int))).toNat x.length = hi := by rw [if_neg (not_neg hi), Int.max_eq_right (Int.natCast_nonneg hi), Int.toNat_natCast, Nat.min_eq_left h]
  show Gives (retInt (occurrences x y 0 (min (max 0 (if (hi : Int) < 0 then (hi : Int) + x.length else (hi : Int))).toNat x.length) (x.length + 1)).length) _
  rw [e]
  exact .of_eq rfl
theorem gives_rfind4 (x y : Str) (hi : Nat) (t u v v' : Tok) (h : hi ≤ x.length) : Gives («str.rfind» ⟨[.str x t, .str y u, .int 0 v, .int (hi : Int) v'], []⟩) (.int (match lastOccurrence x y 0 hi with | some i => (i : Int) | none => -1)) := by
  have e : min (max 0 (if (hi : Int) < 0 then (hi : Int) + x.length else (hi : Int))).toNat x.length = hi := by rw [if_neg (not_neg hi), Int.max_eq_right (Int.natCast_nonneg hi), Int.toNat_natCast, Nat.min_eq_left h]
  show Gives (match lastOccurrence x y 0 (min (max 0 (if (hi : Int) < 0 then (hi : Int) + x.length else (hi : Int))).toNat x.length) with | some i => retInt i | none => (do rule "str.rfind.not-found"; retInt (-1))) _
  rw [e]
  cases lastOccurrence x y 0 hi with
  | none => exact .rule (.of_eq rfl)
  | some i => exact .of_eq rfl
theorem count4 {l : List Nat} {hi : Nat} (hy : y = ⟨#[10]⟩) (h : hi ≤ l.length) (hq : Q (.int ((l.take hi).count 10 : Nat) s.toks) { s with toks := s.toks + 1 }) :
    wpAny (model prog w) A (call (.builtin "str.count") [.str (S l) t, .str y u, .int 0 v, .int (hi : Int) v']) Q E s := by
  subst hy
  refine call_gives F.slot_str_count (typeIs_str _ _ _) F.entry_str_count (F.args_str_count_4 _ _ _ _) (gives_count4 (S l) _ hi t u v v' (by rw [S_len]; exact h)) ?_
  rw [count_one l 10 hi _ h (by rw [S_len]; lia)]
  exact hq
/-- the last line end before hi, or -1 -/
def rf (l : List Nat) (hi : Nat) : Int := match lastOccurrence (S l) ⟨#[10]⟩ 0 hi with | some i => (i : Int) | none => -1
theorem rfind4 {l : List Nat} {hi : Nat} (hy : y = ⟨#[10]⟩) (h : hi ≤ l.length) (hq : Q (.int (rf l hi) s.toks) { s with toks := s.toks + 1 }) :
    wpAny (model prog w) A (call (.builtin "str.rfind") [.str (S l) t, .str y u, .int 0 v, .int (hi : Int) v']) Q E s := by
  subst hy
  exact call_gives F.slot_str_rfind (typeIs_str _ _ _) F.entry_str_rfind (F.args_str_rfind_4 _ _ _ _) (gives_rfind4 (S l) _ hi t u v v' (by rw [S_len]; exact h)) hq
theorem rf_none {l : List Nat} {hi : Nat} (p : Nat × Nat) (h : hi ≤ l.length) (e : rf l hi = -1) : ((l.take hi).foldl adv p).2 = p.2 + hi := by
  rw [← cols_of l hi p h]
  cases hq : lastOccurrence (S l) ⟨#[10]⟩ 0 hi with
  | none => rfl
  | some i =>
    have ef : rf l hi = (i : Int) := by unfold rf; rw [hq]
    lia
theorem rf_some {l : List Nat} {hi : Nat} (p : Nat × Nat) (h : hi ≤ l.length) (e : rf l hi ≠ -1) : (((l.take hi).foldl adv p).2 : Int) = hi - (rf l hi + 1) := by
  rw [← cols_of l hi p h]
  cases hq : lastOccurrence (S l) ⟨#[10]⟩ 0 hi with
  | none => exact absurd (show rf l hi = -1 by unfold rf; rw [hq]) e
  | some i =>
    have ef : rf l hi = (i : Int) := by unfold rf; rw [hq]
    have := last_lt l 10 hi i h hq
    rw [ef]
    exact Int.ofNat_sub this
end

/-! ### the stream, plainly -/
structure St where
  chunk : List Nat
  off : Nat
  errs : Nat
  pl : Nat
  pc : Nat
  buf : Option Nat
  place : Nat

def St.pos (st : St) (o : Nat) : Nat × Nat := (st.chunk.take o).foldl adv (st.pl, st.pc)
def isInv (c : Nat) : Bool := (1 ≤ c && c ≤ 8) || c == 11 || (14 ≤ c && c ≤ 31) || (127 ≤ c && c ≤ 159) || (64976 ≤ c && c ≤ 65007) || (c % 65536 == 65534 || c % 65536 == 65535) || (55296 ≤ c && c ≤ 57343)
/-- a sign that waits for the next piece -/
def waits (c : Nat) : Bool := c == 13 || (55296 ≤ c && c ≤ 56319)
def split (data : List Nat) : List Nat × Option Nat := if 1 < data.length ∧ waits (data.getLastD 0) = true then (data.dropLast, some (data.getLastD 0)) else (data, none)
theorem split_len (l : List Nat) : (split l).1.length ≤ l.length := by
  unfold split
  split
  · simp
  · exact Nat.le_refl _
theorem split_yes {l : List Nat} (h : 1 < l.length) (h2 : l.getLastD 0 = 13 ∨ (55296 ≤ l.getLastD 0 ∧ l.getLastD 0 ≤ 56319)) : split l = (l.dropLast, some (l.getLastD 0)) := by
  unfold split
  have hw : waits (l.getLastD 0) = true := by
    simp only [waits, Bool.or_eq_true, beq_iff_eq, Bool.and_eq_true, decide_eq_true_eq]
    exact h2
  rw [if_pos ⟨h, hw⟩]
theorem split_no {l : List Nat} (h : ¬ (1 < l.length ∧ (l.getLastD 0 = 13 ∨ (55296 ≤ l.getLastD 0 ∧ l.getLastD 0 ≤ 56319)))) : split l = (l, none) := by
  unfold split
  rw [if_neg (fun q => h ⟨q.1, by
    have hq := q.2
    simp only [waits, Bool.or_eq_true, beq_iff_eq, Bool.and_eq_true, decide_eq_true_eq] at hq
    exact hq⟩)]
/-- a piece of the text -/
def partOf (R : List Nat) (size place : Nat) : List Nat := (R.drop place).take size
theorem partOf_len (R : List Nat) (size place : Nat) : (partOf R size place).length = min size (R.length - place) := by simp [partOf]
theorem partOf_le (R : List Nat) (size place : Nat) : (partOf R size place).length ≤ R.length := by unfold partOf; exact Nat.le_trans (List.length_take_le' _ _) (by rw [List.length_drop]; exact Nat.sub_le _ _)
def St.data (R : List Nat) (size : Nat) (st : St) : List Nat := st.buf.toList ++ partOf R size st.place
def St.fetch (R : List Nat) (size : Nat) (st : St) : St :=
  let p := st.pos st.chunk.length
  let d := split (st.data R size)
  { chunk := norm d.1, off := 0, errs := st.errs + d.1.countP isInv, pl := p.1, pc := p.2, buf := d.2, place := st.place + (partOf R size st.place).length }

theorem crlf_ne : ∀ {l : List Nat}, l ≠ [] → crlf l ≠ []
  | [], h => absurd rfl h
  | [_], _ => by simp [crlf]
  | c :: d :: r, _ => by
    rw [crlf]
    split <;> exact List.cons_ne_nil _ _
theorem norm_ne {l : List Nat} (h : l ≠ []) : norm l ≠ [] := by
  unfold norm crs
  intro e
  exact crlf_ne h (List.map_eq_nil_iff.mp e)
theorem split_ne {l : List Nat} (h : l ≠ []) : (split l).1 ≠ [] := by
  unfold split
  split
  · rename_i hh
    intro e
    have := congrArg List.length e
    simp at this
    lia
  · exact h
theorem fetch_ne {R : List Nat} {size : Nat} {st : St} (h : st.data R size ≠ []) : (st.fetch R size).chunk ≠ [] := norm_ne (split_ne h)
/-- char -/
def St.charR (R : List Nat) (st : St) : Option Nat × St :=
  if st.off < st.chunk.length then (some (st.chunk.getD st.off 0), { st with off := st.off + 1 })
  else if st.data R 10240 = [] then (none, st.fetch R 10240)
  else (some ((st.fetch R 10240).chunk.getD 0 0), { st.fetch R 10240 with off := 1 })
/-- unget of a sign -/
def St.unget (c : Nat) (st : St) : St := if st.off = 0 then { st with chunk := c :: st.chunk } else { st with off := st.off - 1 }
end Mine
namespace Mine
open PySem.Builtin PySem.Builtin.Str PySem.StrLaws PySem.Calls

/-! ### steps over texts, by their code points -/
section
variable {prog : Program} {w : World} {A : Around} {E : Value → Shared → Prop} {s : Shared} {value slice : PySem.Expr} {l b : List Nat} {t u v : Tok} {h₀ : Heap} {L : Addr} {m : Str → Option Value} {news : List (Addr × Obj)} {Q : Value → Shared → Prop}
theorem len_S (hl : l.length ≤ 10000000) (h : Q (.int (l.length : Int) (s.toks + 1)) { s with toks := s.toks + 1 + 1 }) : wpAny (model prog w) A (call (.builtin "len") [.str (S l) t]) Q E s :=
  P.len_str (by rw [S_len]; lia) (by rw [S_len]; exact h)
theorem add_S (hl : l.length + b.length ≤ 10000000) (h : ∀ t' k, Q (.str (S (l ++ b)) t') { s with toks := k }) : wpAny (model prog w) A (binaryOp .Add (.str (S l) t) (.str (S b) u)) Q E s := by
  refine KOpn.add (by rw [S_len, S_len]; lia) fun t' k _ => ?_
  rw [S_app]
  exact h t' k
theorem iadd_S (hl : l.length + b.length ≤ 10000000) (h : ∀ t' k, Q (.str (S (l ++ b)) t') { s with toks := k }) : wpAny (model prog w) A (inplaceOp .Add (.str (S l) t) (.str (S b) u)) Q E s := by
  refine SBL.iadd (hsz := by rw [S_len, S_len, PySem.sizeLine_eq]; lia) fun t' k _ => ?_
  rw [S_app]
  exact h t' k
theorem item_S {k : Nat} (hk : k < l.length) (hl : l.length ≤ 10000000) (h : Q (.str (S [l.getD k 0]) s.toks) { s with toks := s.toks + 1 })
    (hs : subscripted slice false (.str (S l) t) (.int (k : Int) u) = operate [.str (S l) t, .int (k : Int) u] (getItem (.str (S l) t) (.int (k : Int) u)) := by with_unfolding_all rfl)
    (ht : ∀ r, letTemporaryGo value (.str (S l) t) r = pure () := by intro _; with_unfolding_all rfl) :
    wpAny (model prog w) A (subscriptTail value slice (.str (S l) t) (.int (k : Int) u)) Q E s := by
  refine KXi.item (S_len l) (by lia) (by lia) (by lia) (fun _ => ?_) hs ht
  have e : Txt.item (S l) (k : Int) = S [l.getD k 0] := by
    have e1 : seqIndex? (k : Int) (S l).length = some k := by
      unfold seqIndex?
      rw [S_len, if_neg (show ¬ ((k : Int) < 0) by lia), if_pos (by simp; lia)]
      rfl
    unfold Txt.item Txt.charAt
    rw [e1]
    show (⟨#[((S l).cps[k]?).getD 0]⟩ : Str) = _
    simp [List.getD_eq_getElem?_getD]
  rw [e]; exact h
theorem item_Si {i : Int} (h0 : 0 ≤ i) (hk : i < (l.length : Int)) (hl : l.length ≤ 10000000) (h : Q (.str (S [l.getD i.toNat 0]) s.toks) { s with toks := s.toks + 1 })
    (hs : subscripted slice false (.str (S l) t) (.int i u) = operate [.str (S l) t, .int i u] (getItem (.str (S l) t) (.int i u)) := by with_unfolding_all rfl)
    (ht : ∀ r, letTemporaryGo value (.str (S l) t) r = pure () := by intro _; with_unfolding_all rfl) :
    wpAny (model prog w) A (subscriptTail value slice (.str (S l) t) (.int i u)) Q E s := by
  obtain ⟨k, rfl⟩ := Int.eq_ofNat_of_zero_le h0
  exact item_S (k := k) (by lia) hl (by simpa using h) hs ht
theorem last_S (hk : l ≠ []) (hl : l.length ≤ 10000000) (h : Q (.str (S [l.getLastD 0]) s.toks) { s with toks := s.toks + 1 })
    (hs : subscripted slice false (.str (S l) t) (.int (-1) u) = operate [.str (S l) t, .int (-1) u] (getItem (.str (S l) t) (.int (-1) u)) := by with_unfolding_all rfl)
    (ht : ∀ r, letTemporaryGo value (.str (S l) t) r = pure () := by intro _; with_unfolding_all rfl) :
    wpAny (model prog w) A (subscriptTail value slice (.str (S l) t) (.int (-1) u)) Q E s := by
  have hp : 0 < l.length := List.length_pos_iff.mpr hk
  refine KXi.item (S_len l) (by lia) (by lia) (by lia) (fun _ => ?_) hs ht
  have e : Txt.item (S l) (-1) = S [l.getLastD 0] := by
    have e1 : seqIndex? (-1) (S l).length = some (l.length - 1) := by
      unfold seqIndex?
      rw [S_len, if_pos (show (-1 : Int) < 0 by decide), if_pos (by simp; lia)]
      congr 1
      obtain ⟨n, hn⟩ : ∃ n, l.length = n + 1 := ⟨_, (Nat.succ_pred_eq_of_pos hp).symm⟩
      rw [hn]
      lia
    unfold Txt.item Txt.charAt
    rw [e1]
    show (⟨#[((S l).cps[l.length - 1]?).getD 0]⟩ : Str) = _
    simp [List.getLastD_eq_getLast?, List.getLast?_eq_getElem?]
  rw [e]; exact h
theorem ord_S {c : Nat} (h : Q (.int (c : Int) s.toks) { s with toks := s.toks + 1 }) : wpAny (model prog w) A (call (.builtin "ord") [.str (S [c]) t]) Q E s := P.ord_of_char h
theorem eq_S (h : Q (.bool (decide (l = b))) s) : wpAny (model prog w) A (compareOp .Eq (.str (S l) t) (.str (S b) u)) Q E s := by
  refine P.eq_str ?_
  have e : ((S l).cps.toList == (S b).cps.toList) = decide (l = b) := by
    show (l == b) = _
    rw [Bool.eq_iff_iff]; simp
  rw [e]; exact h
theorem ne_S (h : Q (.bool (decide (l ≠ b))) s) : wpAny (model prog w) A (compareOp .NotEq (.str (S l) t) (.str (S b) u)) Q E s := by
  refine P.ne_str ?_
  have e : ((S l).cps.toList != (S b).cps.toList) = decide (l ≠ b) := by
    show (l != b) = _
    rw [Bool.eq_iff_iff]; simp
  rw [e]; exact h
theorem truthy_S {Q : Bool → Shared → Prop} (hl : l.length ≤ 10000000) (h : Q (decide (l ≠ [])) { s with toks := s.toks + 1 + 1 }) : wpAny (model prog w) A (truthy (.str (S l) t)) Q E s := by
  refine P.truthy_str (by rw [S_len]; lia) ?_
  have e : (((S l).length : Int) != 0) = decide (l ≠ []) := by
    rw [S_len, Bool.eq_iff_iff]; simp
  rw [e]; exact h

theorem part_S {a n : Nat} {ui uj : Tok} (hF : Fr h₀ L s.heap m) (hN : News h₀ L s.heap news) (hl : l.length ≤ 10000000) (h : ∀ h' t' k, Fr h₀ L h' m → News h₀ L h' news → Q (.str (S ((l.drop a).take n)) t') { s with heap := h', toks := k })
    (hs : subscripted slice false (.str (S l) t) (.ref s.heap.objs.size) = operate [.ref s.heap.objs.size, .str (S l) t] (getItem (.str (S l) t) (.ref s.heap.objs.size)) := by with_unfolding_all rfl)
    (ht : ∀ r, letTemporaryGo value (.str (S l) t) r = pure () := by intro _; with_unfolding_all rfl) :
    wpAny (model prog w) A (subscriptTail value slice (.str (S l) t) (.ref s.heap.objs.size)) Q E { s with heap := s.heap.push { cls := .type "slice", data := .fields #[.int (a : Int) ui, .int ((a : Int) + (n : Int)) uj, .none] } } :=
  slice_strN_ss hF hN (fun h' t' k F N => by rw [slice_part]; exact h h' t' k F N) hs ht (by rw [S_len, PySem.sizeLine_eq]; lia)
theorem mid_S {a n : Nat} {ui uj : Tok} (hF : Fr h₀ L s.heap m) (hN : News h₀ L s.heap news) (hl : l.length ≤ 10000000) (h : ∀ h' t' k, Fr h₀ L h' m → News h₀ L h' news → Q (.str (S ((l.take n).drop a)) t') { s with heap := h', toks := k })
    (hs : subscripted slice false (.str (S l) t) (.ref s.heap.objs.size) = operate [.ref s.heap.objs.size, .str (S l) t] (getItem (.str (S l) t) (.ref s.heap.objs.size)) := by with_unfolding_all rfl)
    (ht : ∀ r, letTemporaryGo value (.str (S l) t) r = pure () := by intro _; with_unfolding_all rfl) :
    wpAny (model prog w) A (subscriptTail value slice (.str (S l) t) (.ref s.heap.objs.size)) Q E { s with heap := s.heap.push { cls := .type "slice", data := .fields #[.int (a : Int) ui, .int (n : Int) uj, .none] } } :=
  slice_strN_ss hF hN (fun h' t' k F N => by rw [slice_mid]; exact h h' t' k F N) hs ht (by rw [S_len, PySem.sizeLine_eq]; lia)
theorem drop_S {n : Nat} {uj : Tok} (hF : Fr h₀ L s.heap m) (hN : News h₀ L s.heap news) (hl : l.length ≤ 10000000) (h : ∀ h' t' k, Fr h₀ L h' m → News h₀ L h' news → Q (.str (S (l.drop n)) t') { s with heap := h', toks := k })
    (hs : subscripted slice false (.str (S l) t) (.ref s.heap.objs.size) = operate [.ref s.heap.objs.size, .str (S l) t] (getItem (.str (S l) t) (.ref s.heap.objs.size)) := by with_unfolding_all rfl)
    (ht : ∀ r, letTemporaryGo value (.str (S l) t) r = pure () := by intro _; with_unfolding_all rfl) :
    wpAny (model prog w) A (subscriptTail value slice (.str (S l) t) (.ref s.heap.objs.size)) Q E { s with heap := s.heap.push { cls := .type "slice", data := .fields #[.int (n : Int) uj, .none, .none] } } :=
  slice_strN_sn hF hN (fun h' t' k F N => by rw [slice_drop]; exact h h' t' k F N) hs ht (by rw [S_len, PySem.sizeLine_eq]; lia)
theorem init_S {uj : Tok} (hF : Fr h₀ L s.heap m) (hN : News h₀ L s.heap news) (hl : l.length ≤ 10000000) (h : ∀ h' t' k, Fr h₀ L h' m → News h₀ L h' news → Q (.str (S l.dropLast) t') { s with heap := h', toks := k })
    (hs : subscripted slice false (.str (S l) t) (.ref s.heap.objs.size) = operate [.ref s.heap.objs.size, .str (S l) t] (getItem (.str (S l) t) (.ref s.heap.objs.size)) := by with_unfolding_all rfl)
    (ht : ∀ r, letTemporaryGo value (.str (S l) t) r = pure () := by intro _; with_unfolding_all rfl) :
    wpAny (model prog w) A (subscriptTail value slice (.str (S l) t) (.ref s.heap.objs.size)) Q E { s with heap := s.heap.push { cls := .type "slice", data := .fields #[.none, .int (-1) uj, .none] } } :=
  slice_strN_ns hF hN (fun h' t' k F N => by rw [slice_init]; exact h h' t' k F N) hs ht (by rw [S_len, PySem.sizeLine_eq]; lia)

theorem crlf_len : ∀ l : List Nat, (crlf l).length ≤ l.length
  | [] => Nat.le_refl _
  | [_] => Nat.le_refl _
  | c :: d :: r => by
    rw [crlf]
    split
    · have := crlf_len r; simp only [List.length_cons]; lia
    · have := crlf_len (d :: r); simp only [List.length_cons] at *; lia
theorem crs_len (l : List Nat) : (crs l).length = l.length := by simp [crs]
theorem norm_len (l : List Nat) : (norm l).length ≤ l.length := by unfold norm; rw [crs_len]; exact crlf_len l
theorem repl_crlf_S {y z : Str} (hy : y = ⟨#[13, 10]⟩) (hz : z = ⟨#[10]⟩) (hu : u ≠ 0) (hv : v ≠ 0) (huv : u ≠ v) (hl : l.length ≤ 1000000) (h : ∀ t' k, s.toks ≤ k → Q (.str (S (crlf l)) t') { s with toks := k }) :
    wpAny (model prog w) A (call (.builtin "str.replace") [.str (S l) t, .str y u, .str z v]) Q E s := by
  subst hy; subst hz
  refine wpAny_with_toks (Nat.le_refl s.toks) (SC.replace hu hv huv (by decide) (by rw [S_len]; show l.length + (l.length + 1) * 1 ≤ _; lia) fun t' k => ?_)
  intro hk
  rw [replace_crlf]; exact h t' k hk
theorem repl_cr_S {y z : Str} (hy : y = ⟨#[13]⟩) (hz : z = ⟨#[10]⟩) (hu : u ≠ 0) (hv : v ≠ 0) (huv : u ≠ v) (hl : l.length ≤ 1000000) (h : ∀ t' k, s.toks ≤ k → Q (.str (S (crs l)) t') { s with toks := k }) :
    wpAny (model prog w) A (call (.builtin "str.replace") [.str (S l) t, .str y u, .str z v]) Q E s := by
  subst hy; subst hz
  refine wpAny_with_toks (Nat.le_refl s.toks) (SC.replace hu hv huv (by decide) (by rw [S_len]; show l.length + (l.length + 1) * 1 ≤ _; lia) fun t' k => ?_)
  intro hk
  rw [replace_cr]; exact h t' k hk
end
end Mine
namespace Mine
open PySem.Builtin PySem.Builtin.Str PySem.StrLaws PySem.Calls

section
variable {prog : Program} {w : World} {A : Around} {E : Value → Shared → Prop} {s : Shared} {env : Env} {h₀ : Heap} {x : PySem.Str} {body : List Stmt} {Q : Flow → Shared → Prop}
/-- a loop over a text's signs: loop_invN over the text's own iterator -/
theorem loop_S {l : List Nat} {tx : Tok} {m₀ : PySem.Str → Option Value} {news : List (Addr × Obj)} (J : Nat → (PySem.Str → Option Value) → List (Addr × Obj) → Prop)
    (hh : A.handled = none) (F : Fr h₀ env.locals s.heap m₀) (N : News h₀ env.locals s.heap news) (hj : J 0 m₀ news)
    (turn : ∀ i c t m₁ news₁ h tk own, l[i]? = some c → news₁.map (·.1) = news.map (·.1) → OwnOff own (news.map (·.1)) → J i m₁ news₁ → Fr h₀ env.locals h (fun y => if y = x then some (.str (S [c]) t) else m₁ y) → News h₀ env.locals h (news₁ ++ own) →
      wpAny (model prog w) A (execs body env) (InvPostN h₀ env.locals (J (i + 1)) own (news.map (·.1)) { s with heap := h, toks := tk } Q) E { s with heap := h, toks := tk })
    (done : ∀ m₁ news₁ h tk, J l.length m₁ news₁ → Fr h₀ env.locals h m₁ → News h₀ env.locals h news₁ → Q .next { s with heap := h, toks := tk }) :
    wpAny (model prog w) A (pyIter (.str (S l) tx)) (fun it s₂ => LoopAtV prog w A h₀ env x body Q E it s₂) E s :=
  wpAny_pyIter_str fun o St walks st0 =>
    have own1 : env.locals ∉ [s.heap.objs.size] := by rw [List.mem_singleton]; exact Nat.ne_of_lt F.ns.lt
    have fresh : ∀ b ∈ [s.heap.objs.size], h₀.get? b = none := by simpa using next_is_new F
    have apart : ∀ p ∈ news, p.1 ∉ [s.heap.objs.size] := fun p hp => by rw [List.mem_singleton]; exact N.apart p hp
    loop_invN J (walks A hh) own1 fresh apart apart st0 (F.push o) (N.grown fun _ _ => Heap.get?_push_of_some o) hj
      (fun i v m₁ nx h tk own _ sign adr off hJ F₁ N₁ => by
        obtain ⟨c, t, hc, hv⟩ := sign
        subst hv
        exact turn i c t m₁ nx h tk own ((List.getElem?_toArray (xs := l)).symm.trans hc) adr off hJ F₁ N₁)
      fun m₁ nx h tk hJ F₁ N₁ => done m₁ nx h tk (S_len l ▸ hJ) F₁ N₁

/-- an end that keeps the addresses is an end of the growing kind -/
theorem InvPostN.grows {g : Heap} {L : Addr} {J J' : (PySem.Str → Option Value) → List (Addr × Obj) → Prop} {own : List (Addr × Obj)} {adr : List Addr} {s₁ s₂ : Shared} {f : Flow} (off : OwnOff own adr) (hJ : ∀ m nx, nx.map (·.1) = adr → J m nx → J' m nx) :
    InvPostN g L J own adr s₁ Q f s₂ → InvPostG g L J' own s₁ Q f s₂ := by
  have up : InvEndN g L J own adr s₁ s₂ → InvEndG g L J' own s₁ s₂ := fun ⟨_, _, _, _, nx, e, F', N', hn, ho, ha, hm⟩ => e ▸ InvEndG.intro F' N' (hJ _ _ ha hm) (ha.symm ▸ off) hn ho
  cases f with
  | next => exact up
  | cont => exact up
  | brk => exact fun p => p
  | ret v => exact fun p => p
/-- a loop over a list of the ledger whose turns keep the ledger's addresses: kdl_iter, the addresses in the invariant -/
theorem loop_L {l : Addr} {vs : List Value} {nn : Nat} {m₀ : PySem.Str → Option Value} {news : List (Addr × Obj)} (J : Nat → (PySem.Str → Option Value) → List (Addr × Obj) → Prop)
    (hh : A.handled = none) (hl : (l, W.listOf vs.toArray nn) ∈ news) (F : Fr h₀ env.locals s.heap m₀) (N : News h₀ env.locals s.heap news) (hj : J 0 m₀ news)
    (turn : ∀ i v m₁ news₁ h tk own, vs[i]? = some v → news₁.map (·.1) = news.map (·.1) → OwnOff own (news.map (·.1)) → (l, W.listOf vs.toArray nn) ∈ news₁ → J i m₁ news₁ → Fr h₀ env.locals h (fun y => if y = x then some v else m₁ y) → News h₀ env.locals h (news₁ ++ own) →
      wpAny (model prog w) A (execs body env) (InvPostN h₀ env.locals (fun m' nx => (l, W.listOf vs.toArray nn) ∈ nx ∧ J (i + 1) m' nx) own (news.map (·.1)) { s with heap := h, toks := tk } Q) E { s with heap := h, toks := tk })
    (done : ∀ m₁ news₁ h tk, (l, W.listOf vs.toArray nn) ∈ news₁ → J vs.length m₁ news₁ → Fr h₀ env.locals h m₁ → News h₀ env.locals h news₁ → Q .next { s with heap := h, toks := tk }) :
    wpAny (model prog w) A (pyIter (.ref l)) (fun it s₂ => LoopAtV prog w A h₀ env x body Q E it s₂) E s :=
  kdl_iter (fun i m nx => (l, W.listOf vs.toArray nn) ∈ nx ∧ nx.map (·.1) = news.map (·.1) ∧ J i m nx) hh hl F N ⟨hl, rfl, hj⟩
    (fun i v m₁ nx h tk own hv off hm hJ F₁ N₁ =>
      have off' : OwnOff own (news.map (·.1)) := hJ.2.1 ▸ off
      wpAny_mono (turn i v m₁ nx h tk own hv hJ.2.1 off' hm hJ.2.2 F₁ N₁) (fun _ _ => InvPostN.grows off' fun _ _ ha hq => ⟨hq.1, hq.1, ha, hq.2⟩) fun _ _ e => e)
    fun m₁ nx h tk hJ => done m₁ nx h tk hJ.1 hJ.2.2

/-- the same with the frame's map at the start handed to the word -/
theorem loop_Sm {l : List Nat} {tx : Tok} {m₀ : PySem.Str → Option Value} {news : List (Addr × Obj)} (J : (PySem.Str → Option Value) → Nat → (PySem.Str → Option Value) → List (Addr × Obj) → Prop)
    (hh : A.handled = none) (F : Fr h₀ env.locals s.heap m₀) (N : News h₀ env.locals s.heap news) (hj : J m₀ 0 m₀ news)
    (turn : ∀ i c t m₁ news₁ h tk own, l[i]? = some c → news₁.map (·.1) = news.map (·.1) → OwnOff own (news.map (·.1)) → J m₀ i m₁ news₁ → Fr h₀ env.locals h (fun y => if y = x then some (.str (S [c]) t) else m₁ y) → News h₀ env.locals h (news₁ ++ own) →
      wpAny (model prog w) A (execs body env) (InvPostN h₀ env.locals (J m₀ (i + 1)) own (news.map (·.1)) { s with heap := h, toks := tk } Q) E { s with heap := h, toks := tk })
    (done : ∀ m₁ news₁ h tk, J m₀ l.length m₁ news₁ → Fr h₀ env.locals h m₁ → News h₀ env.locals h news₁ → Q .next { s with heap := h, toks := tk }) :
    wpAny (model prog w) A (pyIter (.str (S l) tx)) (fun it s₂ => LoopAtV prog w A h₀ env x body Q E it s₂) E s := loop_S (J m₀) hh F N hj turn done
theorem loop_Lm {l : Addr} {vs : List Value} {nn : Nat} {m₀ : PySem.Str → Option Value} {news : List (Addr × Obj)} (J : (PySem.Str → Option Value) → Nat → (PySem.Str → Option Value) → List (Addr × Obj) → Prop)
    (hh : A.handled = none) (hl : (l, W.listOf vs.toArray nn) ∈ news) (F : Fr h₀ env.locals s.heap m₀) (N : News h₀ env.locals s.heap news) (hj : J m₀ 0 m₀ news)
    (turn : ∀ i v m₁ news₁ h tk own, vs[i]? = some v → news₁.map (·.1) = news.map (·.1) → OwnOff own (news.map (·.1)) → (l, W.listOf vs.toArray nn) ∈ news₁ → J m₀ i m₁ news₁ → Fr h₀ env.locals h (fun y => if y = x then some v else m₁ y) → News h₀ env.locals h (news₁ ++ own) →
      wpAny (model prog w) A (execs body env) (InvPostN h₀ env.locals (fun m' nx => (l, W.listOf vs.toArray nn) ∈ nx ∧ J m₀ (i + 1) m' nx) own (news.map (·.1)) { s with heap := h, toks := tk } Q) E { s with heap := h, toks := tk })
    (done : ∀ m₁ news₁ h tk, (l, W.listOf vs.toArray nn) ∈ news₁ → J m₀ vs.length m₁ news₁ → Fr h₀ env.locals h m₁ → News h₀ env.locals h news₁ → Q .next { s with heap := h, toks := tk }) :
    wpAny (model prog w) A (pyIter (.ref l)) (fun it s₂ => LoopAtV prog w A h₀ env x body Q E it s₂) E s := loop_L (J m₀) hh hl F N hj turn done
theorem mix1 (x : PySem.Str) (m₀ : PySem.Str → Option Value) : ∃ u : Option Value, m₀ = fun z => if z = x then u else m₀ z := ⟨m₀ x, funext fun _ => lit1 rfl fun _ => rfl⟩
end

theorem noBool_method : typeLookup (.type "method") "__bool__" = pure none := by rw [typeLookup_type, builtinLookup_eq_fast]; kernel_rfl
theorem noLen_method : typeLookup (.type "method") "__len__" = pure none := by rw [typeLookup_type, builtinLookup_eq_fast]; kernel_rfl
theorem truthy_meth {M : Model} {A : Around} {E : Value → Shared → Prop} {s : Shared} {h₀ : Heap} {L q : Addr} {f self : Value} {news : List (Addr × Obj)} {Q : Bool → Shared → Prop} (N : News h₀ L s.heap news) (hq : (q, methodObj f self) ∈ news) (h : Q true s) :
    wpAny M A (truthy (.ref q)) Q E s := by
  have ho : s.heap.get? q = some (methodObj f self) := (N _ hq).1
  unfold truthy
  refine wpAny_bind (m := callSpecial? (.ref q) (PySem.Str.ofString "__bool__")) (wpAny_bind (wpAny_bind (wpAny_typeOf_ref ho ?_)))
  show wpAny M A (typeLookup (.type "method") "__bool__") _ _ _
  rw [noBool_method]
  refine wpAny_pure (wpAny_pure ?_)
  refine wpAny_bind (wpAny_bind (wpAny_typeOf_ref ho ?_))
  show wpAny M A (typeLookup (.type "method") "__len__") _ _ _
  rw [noLen_method]
  exact wpAny_pure (wpAny_pure h)

theorem gen_toks {α : Type} {M : Model} {A : Around} {t : Sem α} {Q : α → Shared → Prop} {E : Value → Shared → Prop} {s : Shared} (hp : (1 : Nat) ≤ s.toks) (k : ∀ tk : Nat, (1 : Nat) ≤ tk → wpAny M A t Q E { s with toks := tk }) : wpAny M A t Q E s := k s.toks hp

/-! ### ways that meet behind a statement -/
def JoinN (n : Nat) (g : Heap) (L : Addr) (s : Shared) (P : (PySem.Str → Option Value) → List (Addr × Obj) → Prop) (s' : Shared) : Prop :=
  ∃ h' tk' m' nw', s' = { s with heap := h', toks := tk' } ∧ n ≤ tk' ∧ P m' nw' ∧ Fr g L h' m' ∧ News g L h' nw'
def JoinP (n : Nat) (g : Heap) (L : Addr) (s : Shared) (P : (PySem.Str → Option Value) → List (Addr × Obj) → Prop) (Q : Flow → Shared → Prop) (f : Flow) (s' : Shared) : Prop :=
  match f with
  | .next => JoinN n g L s P s'
  | f => Q f s'
theorem join_if {n : Nat} {M : Model} {A : Around} {t : Sem Flow} {E : Value → Shared → Prop} {s : Shared} {g : Heap} {L : Addr} {m : PySem.Str → Option Value} {Q : Flow → Shared → Prop} (F : Fr g L s.heap m) (P : (PySem.Str → Option Value) → List (Addr × Obj) → Prop)
    (h1 : wpAny M A t (JoinP n g L s P Q) E s)
    (h2 : ∀ (h' : Heap) (tk' : Nat) (m' : PySem.Str → Option Value) (nw' : List (Addr × Obj)), n ≤ tk' → P m' nw' → Fr g L h' m' → News g L h' nw' → Q .next { s with heap := h', toks := tk' }) : wpAny M A t Q E s :=
  wpAny_mono h1 (fun f s' h => by
    cases f with
    | next => obtain ⟨h', tk', m', nw', rfl, ht, hP, F', N'⟩ := h; exact h2 h' tk' m' nw' ht hP F' N'
    | brk => exact h
    | cont => exact h
    | ret v => exact h) (fun _ _ h => h)
theorem join_end {n : Nat} {g : Heap} {L : Addr} {s : Shared} {P : (PySem.Str → Option Value) → List (Addr × Obj) → Prop} {h' : Heap} {tk' : Nat} {m' : PySem.Str → Option Value} {nw' : List (Addr × Obj)} (F : Fr g L h' m') (N : News g L h' nw') (ht : n ≤ tk') (hP : P m' nw') : JoinN n g L s P { s with heap := h', toks := tk' } :=
  ⟨h', tk', m', nw', rfl, ht, hP, F, N⟩

theorem mixL {x : PySem.Str} {m' k : PySem.Str → Option Value} (h : ∀ z, z ≠ x → m' z = k z) : ∃ u, m' = fun z => if z = x then u else k z :=
  ⟨m' x, by
    funext z
    by_cases hz : z = x
    · rw [if_pos hz, hz]
    · rw [if_neg hz]; exact h z hz⟩
end Mine
namespace Mine
open PySem.Builtin PySem.Builtin.Str PySem.StrLaws PySem.Calls

/-! ### mended texts -/
theorem norm_cr_lf (t : List Nat) : norm (13 :: 10 :: t) = 10 :: norm t := by
  unfold norm
  rw [crlf, if_pos ⟨rfl, rfl⟩]
  rfl
theorem norm_cons (c : Nat) (l : List Nat) (h : ¬ (c = 13 ∧ l.head? = some 10)) : norm (c :: l) = (if c = 13 then 10 else c) :: norm l := by
  unfold norm
  cases l with
  | nil => rfl
  | cons d t =>
    rw [crlf, if_neg (fun q => h ⟨q.1, by rw [q.2]; rfl⟩)]
    rfl
theorem norm_app : ∀ (a b : List Nat), ¬ (a.getLast? = some 13 ∧ b.head? = some 10) → norm (a ++ b) = norm a ++ norm b
  | [], b, _ => rfl
  | [c], b, h => by
    show norm (c :: b) = _
    rw [norm_cons c b (fun q => h ⟨by rw [q.1]; rfl, q.2⟩)]
    rfl
  | c :: d :: t, b, h => by
    by_cases q : c = 13 ∧ d = 10
    · obtain ⟨rfl, rfl⟩ := q
      rw [List.cons_append, List.cons_append, norm_cr_lf, norm_cr_lf]
      rw [norm_app t b ?_]
      · rfl
      · intro g
        refine h ⟨?_, g.2⟩
        cases t with
        | nil => exact absurd g.1 (by simp)
        | cons e r => rw [List.getLast?_cons_cons, List.getLast?_cons_cons]; exact g.1
    · rw [norm_cons c (d :: t) (fun g => q ⟨g.1, by simpa using g.2⟩), List.cons_append, norm_cons c (d :: t ++ b) (fun g => q ⟨g.1, by simpa using g.2⟩), norm_app (d :: t) b ?_]
      · rfl
      · intro g
        exact h ⟨by rw [List.getLast?_cons_cons]; exact g.1, g.2⟩
/-- the signs that a sign gives behind another -/
def mendS (b : Option Nat) (c : Nat) : List Nat := if c = 13 then [10] else if c = 10 ∧ b = some 13 then [] else [c]
def mend : Option Nat → List Nat → List Nat
  | _, [] => []
  | b, c :: r => mendS b c ++ mend (some c) r
theorem fold_take {l : List Nat} {i c : Nat} (p : Nat × Nat) (h : l[i]? = some c) : (l.take (i + 1)).foldl adv p = adv ((l.take i).foldl adv p) c := by
  rw [List.take_add_one, h]
  simp
/-! ### the cut -/
def cutR (raw : List Nat) (start taken : Nat) : Nat := if raw.getD (taken - 1) 0 = 13 ∧ start < taken - 1 then taken - 1 else taken
/-! ### literals of one sign -/
section
variable {prog : Program} {w : World} {A : Around} {E : Value → Shared → Prop} {s : Shared} {l : List Nat} {y : Str} {t u : Tok} {Q : Value → Shared → Prop}
theorem eq_lit (b : List Nat) (hy : y = S b) (h : Q (.bool (decide (l = b))) s) : wpAny (model prog w) A (compareOp .Eq (.str (S l) t) (.str y u)) Q E s := by
  subst hy; exact eq_S h
theorem iadd_lit (b : List Nat) (hy : y = S b) (hl : l.length + b.length ≤ 10000000) (h : ∀ t' k, Q (.str (S (l ++ b)) t') { s with toks := k }) : wpAny (model prog w) A (inplaceOp .Add (.str (S l) t) (.str y u)) Q E s := by
  subst hy; exact iadd_S hl h
end
end Mine
namespace Mine
open PySem.Builtin PySem.Builtin.Str PySem.StrLaws PySem.Calls

/-! ### list comprehensions by an invariant -/
section
variable {prog : Program} {w : World} {A : Around} {E : Value → Shared → Prop} {s : Shared} {h₀ : Heap} {L : Addr} {m : Str → Option Value} {env : Env}
theorem rest_inv {elt : Expr} {x : Str} {scope : Scope} {cl : List (Str × Addr)} {SS : List (Addr × Obj) → Prop} {P : Nat → Value → Prop} {Fin : List Value → List (Addr × Obj) → Prop} {n : Nat} {news : List (Addr × Obj)}
    (J : Nat → List Value → List (Addr × Obj) → Prop) (hj : J 0 [] news)
    (turn : ∀ i v ys nw I oI C oC D m₂ h tk (E' : Value → Shared → Prop), i < n → P i v → J i ys nw → LCg.NsObj oC m₂ → m₂ x = some v → Fr h₀ L h m → News h₀ L h ((I, oI) :: (C, oC) :: (D, LCg.lst ys) :: nw) → LCg.Off3 I C D nw → ((@Ne Nat I C) ∧ (@Ne Nat I D) ∧ (@Ne Nat C D)) →
      wpAny (model prog w) A (eval elt (compEnvC scope cl C env)) (LCg.CompEnd h₀ L m { s with heap := h, toks := tk } I oI C oC D (LCg.lst ys) SS (fun y nw' => J (i + 1) (ys ++ [y]) nw')) E' { s with heap := h, toks := tk })
    (done : ∀ ys nw, J n ys nw → Fin ys nw) : LCg.CompRest prog w A h₀ L m env elt x scope cl s SS P Fin n 0 [] news := by
  have key : ∀ (j i : Nat) (ys : List Value) (nw : List (Addr × Obj)), i + j = n → J i ys nw → LCg.CompRest prog w A h₀ L m env elt x scope cl s SS P Fin j i ys nw := by
    intro j
    induction j with
    | zero =>
      intro i ys nw hi hy
      obtain rfl : i = n := by lia
      exact LCg.CompRest.zero (done ys nw hy)
    | succ j ih =>
      intro i ys nw hi hy
      refine LCg.CompRest.succ fun v I oI C oC D m₂ h tk E' hv hC hx F N off ne => ?_
      refine wpAny_mono (turn i v ys nw I oI C oC D m₂ h tk E' (by lia) hv hy hC hx F N off ne) (fun y s₂ hq => ?_) fun _ _ e => e
      obtain ⟨h', tk', nw', e, F', N', off', hS, hJ⟩ := hq
      exact ⟨h', tk', nw', e, F', N', off', hS, ih (i + 1) _ _ (by lia) hJ⟩
  exact key n 0 [] news (by lia) hj
/-- the end of a turn, told of a weaker rest -/
theorem end_mono {I C D : Addr} {oI oC oD : Obj} {SS : List (Addr × Obj) → Prop} {r r' : Value → List (Addr × Obj) → Prop} {y : Value} {s₁ s₂ : Shared} (h : ∀ y nw, r y nw → r' y nw) : LCg.CompEnd h₀ L m s₁ I oI C oC D oD SS r y s₂ → LCg.CompEnd h₀ L m s₁ I oI C oC D oD SS r' y s₂ :=
  fun ⟨_, _, nw, e, F, N, off, q, z⟩ => e ▸ LCg.CompEnd.intro F N nw (fun _ hp => hp) off q (h y nw z)
theorem restT_inv {ct elt : Expr} {x : Str} {scope : Scope} {cl : List (Str × Addr)} {SS : List (Addr × Obj) → Prop} {P : Nat → Value → Prop} {Fin : List Value → List (Addr × Obj) → Prop} {n : Nat} {news : List (Addr × Obj)}
    (J : Nat → List Value → List (Addr × Obj) → Prop) (hj : J 0 [] news)
    (turn : ∀ i v ys nw I oI C oC D m₂ h tk (E' : Value → Shared → Prop), i < n → P i v → J i ys nw → LCg.NsObj oC m₂ → m₂ x = some v → Fr h₀ L h m → News h₀ L h ((I, oI) :: (C, oC) :: (D, LCg.lst ys) :: nw) → LCg.Off3 I C D nw → ((@Ne Nat I C) ∧ (@Ne Nat I D) ∧ (@Ne Nat C D)) →
      wpAny (model prog w) A (isTrue ct (compEnvC scope cl C env) (eval ct (compEnvC scope cl C env))) (fun ok s' => if ok = true then
        wpAny (model prog w) A (eval elt (compEnvC scope cl C env)) (LCg.CompEnd h₀ L m { s with heap := h, toks := tk } I oI C oC D (LCg.lst ys) SS (fun y nw' => J (i + 1) (ys ++ [y]) nw')) E' s'
        else LCg.CompEnd h₀ L m { s with heap := h, toks := tk } I oI C oC D (LCg.lst ys) SS (fun _ nw' => J (i + 1) ys nw') Value.none s') E' { s with heap := h, toks := tk })
    (done : ∀ ys nw, J n ys nw → Fin ys nw) : LCt.CompRestT prog w A h₀ L m env ct elt x scope cl s SS P Fin n 0 [] news := by
  have key : ∀ (j i : Nat) (ys : List Value) (nw : List (Addr × Obj)), i + j = n → J i ys nw → LCt.CompRestT prog w A h₀ L m env ct elt x scope cl s SS P Fin j i ys nw := by
    intro j
    induction j with
    | zero =>
      intro i ys nw hi hy
      obtain rfl : i = n := by lia
      exact LCt.CompRestT.zero (done ys nw hy)
    | succ j ih =>
      intro i ys nw hi hy
      refine LCt.CompRestT.succ fun v I oI C oC D m₂ h tk E' hv hC hx F N off ne => ?_
      have next : ∀ {y : Value} {us : List Value} {s₃ : Shared}, LCg.CompEnd h₀ L m { s with heap := h, toks := tk } I oI C oC D (LCg.lst ys) SS (fun _ nw' => J (i + 1) us nw') y s₃ → LCg.CompEnd h₀ L m { s with heap := h, toks := tk } I oI C oC D (LCg.lst ys) SS (fun _ nw' => LCt.CompRestT prog w A h₀ L m env ct elt x scope cl s SS P Fin j (i + 1) us nw') y s₃ :=
        end_mono fun _ nw' q => ih (i + 1) _ nw' (by lia) q
      exact wpAny_mono (turn i v ys nw I oI C oC D m₂ h tk E' (by lia) hv hy hC hx F N off ne) (fun ok s₂ hq => by
        by_cases e : ok = true
        · rw [if_pos e] at hq ⊢
          exact wpAny_mono hq (fun y s₃ q => end_mono (fun _ nw' q => ih (i + 1) _ nw' (by lia) q) q) fun _ _ q => q
        · rw [if_neg e] at hq ⊢
          exact next hq) fun _ _ q => q
  exact key n 0 [] news (by lia) hj

/-- what the iterable, a text, leaves: the turns -/
def SrcText (prog : Program) (w : World) (A : Around) (h₀ : Heap) (L : Addr) (m : Str → Option Value) (env : Env) (ct elt : Expr) (x : Str) (scope : Scope) (cl : List (Str × Addr)) (Fin : Shared → List Value → List (Addr × Obj) → Prop) (xv : Value) (s₁ : Shared) : Prop :=
  ∃ (l : List Nat) (t : Tok) (news : List (Addr × Obj)), xv = .str (S l) t ∧ A.handled = none ∧ Fr h₀ L s₁.heap m ∧ News h₀ L s₁.heap news ∧ l.length ≤ 10000000 ∧
    ∀ g, LCt.CompRestT prog w A h₀ L m env ct elt x scope cl { s₁ with heap := g } (fun _ => True) (fun i v => ∃ c t, l[i]? = some c ∧ v = .str (S [c]) t) (Fin { s₁ with heap := g }) l.length 0 [] news
variable {h h' : Heap} {mC : Str → Option Value} {D C : Addr} {ys : List Value} {nw : List (Addr × Obj)}
end
end Mine
namespace Mine
open PySem.Builtin PySem.Builtin.Str PySem.StrLaws PySem.Calls

/-! ### ledgers turned -/
section
variable {h₀ h : Heap} {L : Addr} {t a1 a2 a3 a4 a5 a6 a7 : Addr × Obj} {r : List (Addr × Obj)}
end
/-! ### what the stream's ways leave -/
structure Ok (R : List Nat) (st : St) : Prop where
  hR : R.length ≤ 1000
  hp : st.place ≤ 1000
  hc : st.chunk.length ≤ 10000
  he : st.errs ≤ 100000
  ho : st.off ≤ st.chunk.length

theorem fetch_len {R : List Nat} {size : Nat} {st : St} (hR : R.length ≤ 1000) : (st.fetch R size).chunk.length ≤ 2000 := by
  refine Nat.le_trans (norm_len _) (Nat.le_trans (split_len _) ?_)
  unfold St.data
  rw [List.length_append]
  have : st.buf.toList.length ≤ 1 := by cases st.buf <;> simp
  exact le3 (Nat.add_le_add this (Nat.le_trans (partOf_le _ _ _) hR)) rfl
end Mine
namespace Mine
open PySem.Builtin PySem.Builtin.Str PySem.StrLaws PySem.Calls PySem.Spec PyProof.V

/-! ### tuples and lists compared -/
section
variable {prog : Program} {w : World} {A : Around} {E : Value → Shared → Prop} {s : Shared} {h₀ : Heap} {L D D' : Addr} {news : List (Addr × Obj)} {Q : Value → Shared → Prop}
theorem ne_tup2 {a b a' b' : Int} {t u t' u' : Tok} {n n' : Nat} (N : News h₀ L s.heap news) (ha : (D, ({ cls := .type "tuple", data := .seq #[.int a t, .int b u] n } : Obj)) ∈ news) (hb : (D', ({ cls := .type "tuple", data := .seq #[.int a' t', .int b' u'] n' } : Obj)) ∈ news)
    (hu : A.units + 64 < cLine) (h : Q (.bool (decide (¬ (a = a' ∧ b = b')))) s) : wpAny (model prog w) A (compareOp .NotEq (.ref D) (.ref D')) Q E s := by
  refine ne_dataH (reads_tuple_at (N.get ha) rfl rfl (.cons (.int a t) (.cons (.int b u) .nil))) (reads_tuple_at (N.get hb) rfl rfl (.cons (.int a' t') (.cons (.int b' u') .nil))) rfl rfl hu ?_
  have e : (!PyData.eqv (.tuple [.int a, .int b]) (.tuple [.int a', .int b'])) = decide (¬ (a = a' ∧ b = b')) := by
    simp only [PyData.eqv, PyData.eqvAll, Bool.and_true]
    by_cases h1 : a = a' <;> by_cases h2 : b = b' <;> simp [h1, h2]
  rw [e]; exact h
theorem eq_tup2 {a b a' b' : Int} {t u t' u' : Tok} {n n' : Nat} (N : News h₀ L s.heap news) (ha : (D, ({ cls := .type "tuple", data := .seq #[.int a t, .int b u] n } : Obj)) ∈ news) (hb : (D', ({ cls := .type "tuple", data := .seq #[.int a' t', .int b' u'] n' } : Obj)) ∈ news)
    (hu : A.units + 64 < cLine) (h : Q (.bool (decide (a = a' ∧ b = b'))) s) : wpAny (model prog w) A (compareOp .Eq (.ref D) (.ref D')) Q E s := by
  refine eq_dataH (reads_tuple_at (N.get ha) rfl rfl (.cons (.int a t) (.cons (.int b u) .nil))) (reads_tuple_at (N.get hb) rfl rfl (.cons (.int a' t') (.cons (.int b' u') .nil))) rfl rfl hu ?_
  have e : (PyData.eqv (.tuple [.int a, .int b]) (.tuple [.int a', .int b'])) = decide (a = a' ∧ b = b') := by
    simp only [PyData.eqv, PyData.eqvAll, Bool.and_true]
    by_cases h1 : a = a' <;> by_cases h2 : b = b' <;> simp [h1, h2]
  rw [e]; exact h
theorem strs_canLayAll0 (ns : List Str) (h : ns.all PyData.strOk = true) : PyData.canLayAll0 (ns.map PyData.str) = true := by
  induction ns with
  | nil => rfl
  | cons x r ih =>
    simp only [List.all_cons, Bool.and_eq_true] at h
    simp [PyData.canLayAll0, PyData.canLay0, ih h.2, h.1]
theorem strs_depthAll : ∀ ns : List Str, PyData.depthAll (ns.map PyData.str) = 0
  | [] => rfl
  | _ :: r => by simp [PyData.depthAll, PyData.depth, strs_depthAll r]
theorem strs_shaped (ns : List Str) (h : ns.all PyData.strOk = true) : SeqAt.shaped (.list (ns.map PyData.str)) = true := by
  simp [SeqAt.shaped, PyData.canLay0, PyData.depth, strs_canLayAll0 ns h, strs_depthAll]
theorem strs_eqvAll (ns : List Str) : ∀ ms : List Str, PyData.eqvAll (ns.map PyData.str) (ms.map PyData.str) = decide (ns = ms) := by
  induction ns with
  | nil => intro ms; cases ms <;> rfl
  | cons a r ih =>
    intro ms
    cases ms with
    | nil => rfl
    | cons b t =>
      rw [List.map_cons, List.map_cons, PyData.eqvAll, PyData.eqv, ih t]
      by_cases e : a = b <;> simp [e]
theorem ne_strs {xs ys : List Value} {ns ms : List Str} (ha : s.heap.IsList D xs.toArray) (hb : s.heap.IsList D' ys.toArray) (hi : StrsAre xs ns) (hj : StrsAre ys ms) (hn : ns.all PyData.strOk = true) (hm : ms.all PyData.strOk = true) (hu : A.units + 64 < cLine) (h : Q (.bool (decide (ns ≠ ms))) s) :
    wpAny (model prog w) A (compareOp .NotEq (.ref D) (.ref D')) Q E s := by
  refine ne_dataH (reads_newData ha hi.carried) (reads_newData hb hj.carried) (strs_shaped _ hn) (strs_shaped _ hm) hu ?_
  have e : (!PyData.eqv (.list (ns.map PyData.str)) (.list (ms.map PyData.str))) = decide (ns ≠ ms) := by
    simp only [PyData.eqv, strs_eqvAll]
    by_cases h : ns = ms <;> simp [h]
  rw [e]; exact h
end
end Mine
namespace Mine
open PySem.Builtin PySem.Builtin.Str PySem.StrLaws PySem.Calls

/-! ### the texts of laws 1 and 2 -/
def SG : List (List Nat) := [[97], [98], [13, 10], [10], [13], [1], [32], [64976], [233], [0], [128512]]
def sgn (n : Int) : List Nat := SG.getD (n.fmod 11).toNat []
def tapeOf (ns : List Int) : List Int := ns.take 14 ++ [(ns.length : Int)]
def rawOf (ns : List Int) : List Nat := ((tapeOf ns).map sgn).flatten
theorem map_take {l : List Int} {i : Nat} {k : Int} (f : Int → Str) (h : l[i]? = some k) : (l.take (i + 1)).map f = (l.take i).map f ++ [f k] := by
  rw [List.take_add_one, h]
  simp
end Mine
namespace Mine
open PySem.Builtin PySem.Builtin.Str PySem.StrLaws PySem.Calls

/-! ### texts glued -/
theorem strs_values : ∀ {vs : List Value} {ts : List Str}, StrsAre vs ts → ∃ l : List (Str × Tok), vs = strValues l ∧ l.map (·.1) = ts
  | _, _, .nil => ⟨[], rfl, rfl⟩
  | _, _, .cons y t r => by
    obtain ⟨l, h1, h2⟩ := strs_values r
    exact ⟨(y, t) :: l, by rw [h1]; rfl, by rw [← h2]; rfl⟩
theorem glue_S : ∀ ls : List (List Nat), PySem.Str.join (S []) (ls.map S) = S ls.flatten
  | [] => by decide +kernel
  | [a] => by
    show S a = _
    simp
  | a :: b :: r => by
    refine PySem.Str.ext' ?_
    have h := join_cons (S []) (S a) (S b :: r.map S) (List.cons_ne_nil _ _)
    have ih := congrArg (fun z => z.cps.toList) (glue_S (b :: r))
    have e : (PySem.Str.join (S []) ((a :: b :: r).map S)).cps.toList = (S (a :: b :: r).flatten).cps.toList := by
      show (PySem.Str.join (S []) (S a :: S b :: r.map S)).cps.toList = _
      rw [h]
      have ih' : (PySem.Str.join (S []) (S b :: r.map S)).cps.toList = (b :: r).flatten := ih
      rw [ih', List.flatten_cons]
      simp
    exact Array.toList_inj.mp e
section
variable {prog : Program} {w : World} {A : Around} {E : Value → Shared → Prop} {s : Shared} {D : Addr} {Q : Value → Shared → Prop}
theorem join_S {vs : List Value} {ls : List (List Nat)} {R : List Nat} (hR : ls.flatten = R) {y : Str} {t : Tok} (hy : y = S []) (hl : s.heap.IsList D vs.toArray) (hv : StrsAre vs (ls.map S)) (hn : ls.length ≤ 100) (hB : ∀ l ∈ ls, l.length ≤ 100)
    (h : ∀ t' k, Q (.str (S R) t') { s with toks := k }) : wpAny (model prog w) A (call (.builtin "str.join") [.str y t, .ref D]) Q E s := by
  subst hy hR
  obtain ⟨l, rfl, h2⟩ := strs_values hv
  refine SC.join hl h2 ?_ fun t' k => ?_
  · unfold JoinOk
    have hb : ∀ y ∈ ls.map S, y.length ≤ 100 := fun y hy => by
      obtain ⟨z, hz, rfl⟩ := List.mem_map.mp hy
      rw [S_len]; exact hB z hz
    rw [joinFits hb (by
      rw [List.length_map]
      show ls.length * 100 + ls.length * 0 ≤ _
      lia)]
    rfl
  · have e : Txt.join (S []) (ls.map S) = S ls.flatten := (glued_eq_join _ _).trans (glue_S ls)
    rw [e]; exact h t' k
end
end Mine
namespace Mine
open PySem.Builtin PySem.Builtin.Str PySem.StrLaws PySem.Calls

/-! ### the stream over its text, plainly -/
def St.cut (st : St) : Nat := st.place - st.buf.toList.length
def Inv (R : List Nat) (st : St) (p : Nat) : Prop :=
  ∃ A B C : List Nat, A ++ (B ++ C) = R ∧ C = st.buf.toList ++ R.drop st.place ∧ ¬ (A.getLast? = some 13 ∧ (B ++ C).head? = some 10) ∧ ¬ ((A ++ B).getLast? = some 13 ∧ C.head? = some 10) ∧
    st.chunk = norm B ∧ st.errs = (A ++ B).countP isInv ∧ (st.pl, st.pc) = (norm A).foldl adv (0, 0) ∧ st.off ≤ st.chunk.length ∧ p = (norm A).length + st.off ∧ st.place ≤ R.length
theorem norm_two {A B C : List Nat} (h1 : ¬ (A.getLast? = some 13 ∧ (B ++ C).head? = some 10)) : norm (A ++ B) = norm A ++ norm B := by
  refine norm_app A B fun g => h1 ⟨g.1, ?_⟩
  cases B with
  | nil => exact absurd g.2 (by simp)
  | cons b r => exact g.2
theorem norm_tail {A B C : List Nat} (h2 : ¬ ((A ++ B).getLast? = some 13 ∧ C.head? = some 10)) : norm (B ++ C) = norm B ++ norm C := by
  refine norm_app B C fun g => h2 ⟨?_, g.2⟩
  rw [List.getLast?_append, g.1]
  rfl
theorem norm_three {A B C : List Nat} (h1 : ¬ (A.getLast? = some 13 ∧ (B ++ C).head? = some 10)) (h2 : ¬ ((A ++ B).getLast? = some 13 ∧ C.head? = some 10)) : norm (A ++ (B ++ C)) = norm A ++ (norm B ++ norm C) := by
  rw [norm_app A (B ++ C) h1, norm_tail h2]
theorem norm_nil : norm [] = [] := rfl
theorem norm_eq_nil {l : List Nat} (h : norm l = []) : l = [] := by
  cases l with
  | nil => rfl
  | cons a r => exact absurd h (norm_ne (List.cons_ne_nil _ _))
theorem inv_start {R : List Nat} : Inv R ⟨[], 0, 0, 0, 0, none, 0⟩ 0 := ⟨[], [], R, rfl, rfl, by simp, by simp, rfl, rfl, rfl, Nat.le_refl _, rfl, Nat.zero_le _⟩
theorem split_app (D : List Nat) : (split D).1 ++ (split D).2.toList = D := by
  unfold split
  split
  · rename_i h
    have hne : D ≠ [] := by intro e; rw [e] at h; simp at h
    have : D.getLastD 0 = D.getLast hne := by rw [List.getLastD_eq_getLast?, List.getLast?_eq_some_getLast hne]; rfl
    show D.dropLast ++ [D.getLastD 0] = D
    rw [this, List.dropLast_concat_getLast]
  · simp
/-- no halves of pairs -/
def Plain (R : List Nat) : Prop := ∀ c ∈ R, waits c = true → c = 13
theorem part_drop (R : List Nat) (size place : Nat) : partOf R size place ++ R.drop (place + (partOf R size place).length) = R.drop place := by
  unfold partOf
  have h := List.take_append_drop size (R.drop place)
  rw [List.drop_drop] at h
  rw [List.length_take, List.length_drop]
  rcases Nat.le_total size (R.length - place) with q | q
  · rw [Nat.min_eq_left q]; exact h
  · rw [Nat.min_eq_right q]
    rw [List.drop_eq_nil_of_le (Nat.sub_le_iff_le_add'.mp (Nat.le_refl _)) (i := place + (R.length - place)), List.append_nil, List.take_of_length_le (by rw [List.length_drop]; exact q)]
theorem inv_fetch {R : List Nat} {st : St} {p size : Nat} (hi : Inv R st p) (hR : Plain R) (he : st.off = st.chunk.length) (hs : 2 ≤ size) :
    Inv R (st.fetch R size) p ∧ decide (st.data R size ≠ []) = decide (p < (norm R).length) := by
  obtain ⟨A, B, C, hABC, hC, h1, h2, hch, her, hpos, ho, hp, hpl⟩ := hi
  have hD : st.data R size ++ R.drop (st.place + (partOf R size st.place).length) = C := by
    rw [hC]
    unfold St.data
    rw [List.append_assoc, part_drop]
  have hlen : (partOf R size st.place).length = min size (R.length - st.place) := partOf_len _ _ _
  have hN : norm R = norm A ++ (norm B ++ norm C) := by rw [← hABC]; exact norm_three h1 h2
  have hDC : st.data R size = [] ↔ C = [] := by
    constructor
    · intro e
      have e2 : partOf R size st.place = [] := (List.append_eq_nil_iff.mp e).2
      rw [e2, List.length_nil] at hlen
      rw [e, List.nil_append] at hD
      rw [← hD]
      exact List.drop_eq_nil_of_le (by lia)
    · intro e
      rw [e] at hD
      exact (List.append_eq_nil_iff.mp hD).1
  have hmem : ∀ c ∈ st.data R size, c ∈ R := fun c hc => by
    rw [← hABC]
    refine List.mem_append.mpr (.inr (List.mem_append.mpr (.inr ?_)))
    rw [← hD]
    exact List.mem_append.mpr (.inl hc)
  refine ⟨⟨A ++ B, (split (st.data R size)).1, (split (st.data R size)).2.toList ++ R.drop (st.place + (partOf R size st.place).length), ?_, rfl, ?_, ?_, rfl, ?_, ?_, Nat.zero_le _, ?_, ?_⟩, ?_⟩
  · rw [← List.append_assoc (split _).1, split_app, hD, List.append_assoc, hABC]
  · rw [← List.append_assoc (split _).1, split_app, hD]; exact h2
  · rintro ⟨g1, g2⟩
    by_cases hl : (st.data R size).length ≤ 1
    · have e : R.drop (st.place + (partOf R size st.place).length) = [] := by
        refine List.drop_eq_nil_of_le ?_
        have : (partOf R size st.place).length ≤ (st.data R size).length := by unfold St.data; rw [List.length_append]; lia
        lia
      rw [split_no (by lia), e] at g2
      simp at g2
    · by_cases hw : waits ((st.data R size).getLastD 0) = true
      · have hsp : split (st.data R size) = ((st.data R size).dropLast, some ((st.data R size).getLastD 0)) := by
          unfold split
          rw [if_pos ⟨by lia, hw⟩]
        rw [hsp] at g2
        have hne : st.data R size ≠ [] := by intro e; rw [e] at hl; simp at hl
        have hm : (st.data R size).getLastD 0 ∈ R := hmem _ (by
          rw [List.getLastD_eq_getLast?, List.getLast?_eq_some_getLast hne]
          exact List.getLast_mem hne)
        have h13 := hR _ hm hw
        rw [h13] at g2
        simp at g2
      · have hsp : split (st.data R size) = (st.data R size, none) := by
          unfold split
          rw [if_neg (fun q => hw q.2)]
        rw [hsp] at g1
        have hne : st.data R size ≠ [] := by intro e; rw [e] at hl; simp at hl
        have g3 : (st.data R size).getLast? = some 13 := by
          rw [List.getLast?_append, List.getLast?_eq_some_getLast hne] at g1
          rw [List.getLast?_eq_some_getLast hne]
          exact g1
        refine hw ?_
        rw [List.getLastD_eq_getLast?, g3]
        rfl
  · show st.errs + _ = _
    rw [her, List.countP_append, List.countP_append, List.countP_append]
  · show st.pos st.chunk.length = _
    unfold St.pos
    rw [List.take_length, hpos, hch, ← List.foldl_append, norm_two h1]
  · show p = _ + 0
    rw [norm_two h1, List.length_append, hp, he, hch]
    lia
  · show st.place + _ ≤ _
    rw [hlen]
    exact Nat.le_trans (Nat.add_le_add_left (Nat.min_le_right _ _) _) (Nat.le_of_eq (Nat.add_sub_cancel' hpl))
  · rw [Bool.eq_iff_iff]
    simp only [decide_eq_true_eq]
    rw [hN, List.length_append, List.length_append, hp, he, hch]
    constructor
    · intro h
      have : norm C ≠ [] := norm_ne fun e => h (hDC.mpr e)
      have := List.length_pos_iff.mpr this
      lia
    · intro h e
      rw [hDC.mp e, norm_nil] at h
      simp at h
end Mine
namespace Mine
open PySem.Builtin PySem.Builtin.Str PySem.StrLaws PySem.Calls

theorem inv_le {R : List Nat} {st : St} {p : Nat} (hi : Inv R st p) : p ≤ (norm R).length := by
  obtain ⟨A, B, C, hABC, hC, h1, h2, hch, her, hpos, ho, hp, hpl⟩ := hi
  rw [← hABC, norm_three h1 h2, List.length_append, List.length_append, hp]
  rw [hch] at ho
  lia
theorem adv_shift : ∀ (l : List Nat) (p : Nat × Nat), l.foldl adv (p.1 + 1, p.2) = ((l.foldl adv p).1 + 1, (l.foldl adv p).2)
  | [], p => rfl
  | c :: r, p => by
    rw [List.foldl_cons, List.foldl_cons]
    have : adv (p.1 + 1, p.2) c = ((adv p c).1 + 1, (adv p c).2) := by unfold adv; split <;> rfl
    rw [this, adv_shift r (adv p c)]
theorem inv_ok {R : List Nat} {st : St} {p : Nat} (hi : Inv R st p) (hR : R.length ≤ 1000) : Ok R st := by
  obtain ⟨A, B, C, hABC, hC, h1, h2, hch, her, hpos, ho, hp, hpl⟩ := hi
  have hl := congrArg List.length hABC
  rw [List.length_append, List.length_append] at hl
  refine ⟨hR, by lia, ?_, ?_, ho⟩
  · rw [hch]
    exact Nat.le_trans (norm_len B) (by lia)
  · rw [her]
    refine Nat.le_trans List.countP_le_length ?_
    rw [List.length_append]
    lia
theorem inv_cut {R : List Nat} {st : St} {p : Nat} (hi : Inv R st p) : ∃ A B C : List Nat, A ++ (B ++ C) = R ∧ C = st.buf.toList ++ R.drop st.place ∧ (A ++ B).length = st.cut ∧ R.take st.cut = A ++ B ∧ norm (A ++ B) = norm A ++ norm B ∧ st.chunk = norm B ∧ st.errs = (A ++ B).countP isInv ∧ p = (norm A).length + st.off ∧ st.buf.toList.length ≤ st.place := by
  obtain ⟨A, B, C, hABC, hC, h1, h2, hch, her, hpos, ho, hp, hpl⟩ := hi
  have hl := congrArg List.length hABC
  have hl2 := congrArg List.length hC
  rw [List.length_append, List.length_append] at hl
  rw [List.length_append, List.length_drop] at hl2
  have hq : A.length + B.length + st.buf.toList.length = st.place := Nat.add_right_cancel (m := R.length - st.place) (by rw [Nat.add_assoc, ← hl2, Nat.add_assoc, hl, Nat.add_sub_cancel' hpl])
  have hlen : (A ++ B).length = st.cut := by
    unfold St.cut
    rw [List.length_append]
    exact Nat.eq_sub_of_add_eq hq
  refine ⟨A, B, C, hABC, hC, hlen, ?_, norm_two h1, hch, her, hp, hq ▸ Nat.le_add_left _ _⟩
  rw [← hlen, ← hABC, ← List.append_assoc, List.take_left']
  rfl
theorem inv_until {R : List Nat} {st : St} {p : Nat} (hi : Inv R st p) : (norm (R.take st.cut)).length + st.off = p + st.chunk.length := by
  obtain ⟨A, B, C, _, _, _, ht, hn, hch, her, hp, _⟩ := inv_cut hi
  rw [ht, hn, List.length_append, hp, hch]
  lia
theorem inv_end {R : List Nat} {st : St} {p : Nat} (hi : Inv R st p) (he : ¬ p < (norm R).length) : st.errs = R.countP isInv ∧ st.off = st.chunk.length := by
  obtain ⟨A, B, C, hABC, hC, h1, h2, hch, her, hpos, ho, hp, hpl⟩ := hi
  rw [← hABC, norm_three h1 h2, List.length_append, List.length_append, hp] at he
  rw [hch] at ho
  have : norm C = [] := List.eq_nil_of_length_eq_zero (by lia)
  have hc := norm_eq_nil this
  refine ⟨?_, ?_⟩
  · rw [her, ← hABC, hc, List.append_nil]
  · rw [hch]; lia
theorem inv_data {R : List Nat} {st : St} {p : Nat} (hi : Inv R st p) (size : Nat) : ∃ P : List Nat, P.length = st.cut ∧ P ++ (st.data R size ++ R.drop (st.place + (partOf R size st.place).length)) = R := by
  obtain ⟨A, B, C, hABC, hC, hl, _⟩ := inv_cut hi
  refine ⟨A ++ B, hl, ?_⟩
  rw [List.append_assoc, ← hABC]
  congr 2
  rw [hABC, hC]
  unfold St.data
  rw [List.append_assoc, part_drop]
theorem inv_place {R : List Nat} {st : St} {p : Nat} (hi : Inv R st p) (size : Nat) : (st.fetch R size).place = min (st.place + size) R.length := by
  obtain ⟨A, B, C, hABC, hC, h1, h2, hch, her, hpos, ho, hp, hpl⟩ := hi
  show st.place + (partOf R size st.place).length = _
  rw [partOf_len, ← Nat.add_min_add_left, Nat.add_sub_cancel' hpl]
theorem inv_cutR {R : List Nat} {st : St} {p size : Nat} (hi : Inv R st p) (hR : Plain R) : cutR R st.cut (st.fetch R size).place = (st.fetch R size).cut := by
  obtain ⟨P, hP, hPR⟩ := inv_data hi size
  obtain ⟨A, B, C, hABC, hC, hl, _, _, _, _, _, hbuf⟩ := inv_cut hi
  have hT : (st.fetch R size).place = st.cut + (st.data R size).length := by
    show st.place + (partOf R size st.place).length = _
    unfold St.data St.cut
    rw [List.length_append, ← Nat.add_assoc, Nat.sub_add_cancel hbuf]
  have hlast : ∀ h : st.data R size ≠ [], R.getD ((st.fetch R size).place - 1) 0 = (st.data R size).getLastD 0 := by
    intro h
    have hpos := List.length_pos_iff.mpr h
    rw [hT, ← hP]
    have e : R.getD (P.length + (st.data R size).length - 1) 0 = (st.data R size).getD ((st.data R size).length - 1) 0 := by
      have e1 : R.getD (P.length + (st.data R size).length - 1) 0 = (P ++ (st.data R size ++ R.drop (st.place + (partOf R size st.place).length))).getD (P.length + (st.data R size).length - 1) 0 := by rw [hPR]
      rw [e1, List.getD_eq_getElem?_getD, List.getD_eq_getElem?_getD, List.getElem?_append_right (Nat.le_sub_one_of_lt (Nat.lt_add_of_pos_right hpos)), Nat.add_sub_assoc hpos, Nat.add_sub_cancel_left, List.getElem?_append_left (Nat.sub_lt hpos Nat.one_pos)]
    rw [e, List.getLastD_eq_getLast?, List.getLast?_eq_getElem?, List.getD_eq_getElem?_getD]
  have hb : (st.fetch R size).buf = (split (st.data R size)).2 := rfl
  unfold St.cut cutR
  rw [hb]
  by_cases hlen : 1 < (st.data R size).length
  · have hne : st.data R size ≠ [] := by intro e; rw [e] at hlen; simp at hlen
    by_cases hw : waits ((st.data R size).getLastD 0) = true
    · have hsp : split (st.data R size) = ((st.data R size).dropLast, some ((st.data R size).getLastD 0)) := by unfold split; rw [if_pos ⟨hlen, hw⟩]
      have hm : (st.data R size).getLastD 0 ∈ R := by
        have h1 : (st.data R size).getLastD 0 ∈ st.data R size := by
          rw [List.getLastD_eq_getLast?, List.getLast?_eq_some_getLast hne]
          exact List.getLast_mem hne
        have h2 : (st.data R size).getLastD 0 ∈ P ++ (st.data R size ++ R.drop (st.place + (partOf R size st.place).length)) := List.mem_append.mpr (.inr (List.mem_append.mpr (.inl h1)))
        rw [hPR] at h2
        exact h2
      rw [if_pos ⟨by rw [hlast hne]; exact hR _ hm hw, by rw [hT]; exact Nat.lt_sub_of_add_lt (Nat.add_lt_add_left hlen _)⟩, hsp]
      rfl
    · have hsp : split (st.data R size) = (st.data R size, none) := by unfold split; rw [if_neg (fun q => hw q.2)]
      rw [if_neg (fun q => hw (by rw [← hlast hne, q.1]; rfl)), hsp]
      rfl
  · have hsp : split (st.data R size) = (st.data R size, none) := by unfold split; rw [if_neg (fun q => hlen q.1)]
    rw [if_neg (fun q => hlen (by have := q.2; rw [hT] at this; exact Nat.lt_of_add_lt_add_left (n := st.cut) (Nat.add_lt_of_lt_sub this))), hsp]
    rfl
theorem inv_off {R : List Nat} {ck : List Nat} {er pl pc : Nat} {bf : Option Nat} {pla p : Nat} (hi : Inv R ⟨ck, 0, er, pl, pc, bf, pla⟩ p) {j : Nat} (hj : j ≤ ck.length) : Inv R ⟨ck, j, er, pl, pc, bf, pla⟩ (p + j) := by
  obtain ⟨A, B, C, hABC, hC, h1, h2, hch, her, hpos, ho', hp, hpl⟩ := hi
  exact ⟨A, B, C, hABC, hC, h1, h2, hch, her, hpos, hj, by dsimp only at hp ⊢; lia, hpl⟩
end Mine
namespace Mine
open PySem.Builtin PySem.Builtin.Str PySem.StrLaws PySem.Calls

/-! ### the signs of laws 1 and 2 -/
def badS (c : Nat) : Bool := c == 1 || c == 64976
structure Raw (R : List Nat) : Prop where
  len : R.length ≤ 1000
  ne : R ≠ []
  plain : Plain R
  code : ∀ c ∈ R, c < 1114112
  bad : ∀ c ∈ R, isInv c = badS c
/-! ### whiles by an invariant that may speak of the frame at its start -/
section
variable {prog : Program} {w : World} {A : Around} {E : Value → Shared → Prop} {Q : Flow → Shared → Prop} {s : Shared} {env : Env} {h₀ : Heap} {L : Addr}
theorem while_m {test : Expr} {body : List Stmt} {pos : Pos} {m₀ : PySem.Str → Option Value} {news : List (Addr × Obj)} (J : (PySem.Str → Option Value) → Nat → (PySem.Str → Option Value) → List (Addr × Obj) → Prop) (n₀ : Nat)
    (F : Fr h₀ L s.heap m₀) (N : News h₀ L s.heap news) (hJ : J m₀ n₀ m₀ news)
    (turn : ∀ n m₁ news₁ h₁ tk₁, J m₀ n m₁ news₁ → Fr h₀ L h₁ m₁ → News h₀ L h₁ news₁ →
      wpAny (model prog w) A (isTrue test env (eval test env)) (fun b s₂ =>
        if b = true then wpAny (model prog w) A (execs body env) (WhileStep2 h₀ L s (J m₀) Q n) E s₂ else Q .next s₂) E { s with heap := h₁, toks := tk₁ })
    (hE : PassesOwn (model prog w) A env E := by first | assumption | passes_own) :
    wpAny (model prog w) A (exec (.While test body [] pos) env) Q E s := While_inv2 (J m₀) F N hJ (fun n m₁ news₁ h₁ tk₁ F₁ N₁ hj => turn n m₁ news₁ h₁ tk₁ hj F₁ N₁) hE
theorem wstep_end {J : Nat → (PySem.Str → Option Value) → List (Addr × Obj) → Prop} {n n' : Nat} {h' : Heap} {tk : Nat} {m₂ : PySem.Str → Option Value} {news₂ : List (Addr × Obj)} (F : Fr h₀ L h' m₂) (N : News h₀ L h' news₂) (hn : n' < n) (hJ : J n' m₂ news₂) :
    WhileStep2 h₀ L s J Q n .next { s with heap := h', toks := tk } := ⟨h', tk, m₂, news₂, n', rfl, F, N, hn, hJ⟩
end
theorem int_eq {a b : Int} {t : Tok} (h : a = b) : some (Value.int a t) = some (Value.int b t) := by rw [h]
theorem set1 {m₀ m' : PySem.Str → Option Value} {x : PySem.Str} {a : Int} (hx : ∃ t, m' x = some (.int a t)) (ho : ∀ z, z ≠ x → m' z = m₀ z) : ∃ t : Tok, m' = fun z => if z = x then some (.int a t) else m₀ z := by
  obtain ⟨t, hx⟩ := hx
  exact ⟨t, funext fun z => lit1 hx fun h => ho z h⟩

/-! ### lists of one text over and over -/
theorem rep_inj {v : PySem.Str} {n m : Nat} : List.replicate n v = List.replicate m v ↔ n = m := ⟨fun h => by have := congrArg List.length h; simpa using this, fun h => by rw [h]⟩
theorem rep_ok {v : PySem.Str} (h : PyData.strOk v = true) (n : Nat) : (List.replicate n v).all PyData.strOk = true := by
  rw [List.all_eq_true]
  intro x hx
  rw [(List.mem_replicate.mp hx).2, h]
theorem ne_rep {prog : Program} {w : World} {A : Around} {E : Value → Shared → Prop} {s : Shared} {D D' : Addr} {Q : Value → Shared → Prop} {v : PySem.Str} {xs ys : List Value} {n m : Nat} (ha : s.heap.IsList D xs.toArray) (hb : s.heap.IsList D' ys.toArray)
    (hi : StrsAre xs (List.replicate n v)) (hj : StrsAre ys (List.replicate m v)) (hv : PyData.strOk v = true) (hu : A.units + 64 < cLine) (h : Q (.bool (decide (n ≠ m))) s) :
    wpAny (model prog w) A (compareOp .NotEq (.ref D) (.ref D')) Q E s := by
  refine ne_strs ha hb hi hj (rep_ok hv n) (rep_ok hv m) hu ?_
  have e : decide (List.replicate n v ≠ List.replicate m v) = decide (n ≠ m) := by
    rw [Bool.eq_iff_iff]
    simp only [decide_eq_true_eq]
    exact not_congr rep_inj
  rw [e]; exact h
end Mine
namespace Mine
open PySem.Builtin PySem.Builtin.Str PySem.StrLaws PySem.Calls

/-! ### the first items of a list of ints -/
section
variable {prog : Program} {w : World} {A : Around} {E : Value → Shared → Prop} {s : Shared} {h₀ : Heap} {L l : Addr} {m : PySem.Str → Option Value} {news : List (Addr × Obj)} {value slice : PySem.Expr} {vs : List Value} {ns : List Int} {Q : Value → Shared → Prop}
end
end Mine
namespace Mine
open PySem.Builtin PySem.Builtin.Str PySem.StrLaws PySem.Calls

/-! ### a run of signs, plainly -/
def runL (P : Nat → Bool) (b : Bool) (l : List Nat) : List Nat := l.takeWhile fun c => P c == b
theorem runL_le (P : Nat → Bool) (b : Bool) : ∀ l : List Nat, (runL P b l).length ≤ l.length
  | [] => Nat.le_refl _
  | c :: r => by
    unfold runL
    rw [List.takeWhile_cons]
    split
    · have := runL_le P b r
      unfold runL at this
      simp only [List.length_cons]; lia
    · simp
theorem runL_yes {P : Nat → Bool} {b : Bool} : ∀ {l : List Nat} {j : Nat}, j < (runL P b l).length → P (l.getD j 0) = b
  | [], j, h => by simp [runL] at h
  | c :: r, j, h => by
    unfold runL at h
    rw [List.takeWhile_cons] at h
    split at h
    · rename_i hc
      cases j with
      | zero => simpa using hc
      | succ j =>
        have := runL_yes (l := r) (j := j) (by unfold runL; simpa using h)
        simpa using this
    · simp at h
theorem runL_no {P : Nat → Bool} {b : Bool} : ∀ {l : List Nat}, (runL P b l).length < l.length → P (l.getD (runL P b l).length 0) = !b
  | [], h => by simp at h
  | c :: r, h => by
    unfold runL at h ⊢
    rw [List.takeWhile_cons] at h ⊢
    split
    · rename_i hc
      rw [if_pos hc] at h
      have := runL_no (P := P) (b := b) (l := r) (by unfold runL; simpa using h)
      simpa [runL] using this
    · rename_i hc
      cases hp : P c <;> cases b <;> simp_all
theorem runL_take (P : Nat → Bool) (b : Bool) : ∀ l : List Nat, runL P b l = l.take (runL P b l).length
  | [] => rfl
  | c :: r => by
    unfold runL
    rw [List.takeWhile_cons]
    split
    · have := runL_take P b r
      unfold runL at this
      rw [List.length_cons, List.take_succ_cons, ← this]
    · rfl
theorem runL_all {P : Nat → Bool} {b : Bool} {l : List Nat} (h : (runL P b l).length = l.length) : runL P b l = l := by
  rw [runL_take, h, List.take_length]
theorem runL_app {P : Nat → Bool} {b : Bool} {l r : List Nat} (h : (runL P b l).length = l.length) : runL P b (l ++ r) = l ++ runL P b r := by
  have ha := runL_all h
  clear h
  induction l with
  | nil => rfl
  | cons c t ih =>
    unfold runL at ha ⊢
    rw [List.takeWhile_cons] at ha
    split at ha
    · rename_i hc
      rw [List.cons_append, List.takeWhile_cons, if_pos hc, List.cons_append]
      have := List.cons.inj ha
      congr 1
      exact ih this.2
    · cases ha
theorem runL_stop {P : Nat → Bool} {b : Bool} : ∀ {l r : List Nat}, (runL P b l).length < l.length → runL P b (l ++ r) = runL P b l
  | [], _, h => by simp at h
  | c :: t, r, h => by
    unfold runL at h ⊢
    rw [List.takeWhile_cons] at h
    rw [List.cons_append, List.takeWhile_cons, List.takeWhile_cons]
    split
    · rename_i hc
      rw [if_pos hc] at h
      congr 1
      exact runL_stop (by unfold runL; simpa using h)
    · rfl

/-- what charsUntil asks of the stream -/
structure UOk (R : List Nat) (st : St) : Prop where
  hR : R.length ≤ 1000
  hp : st.place ≤ 1000
  hc : st.chunk.length ≤ 100
  he : st.errs ≤ 100000
  ho : st.off ≤ st.chunk.length
  hcd : ∀ c ∈ st.chunk, c < 1114112
/-- charsUntil: what comes, and the stream behind it; the index counts the pieces fetched -/
inductive Until (R : List Nat) (P : Nat → Bool) (b : Bool) : Nat → St → List Nat → St → Prop
  | stop {n : Nat} {st : St} (ok : UOk R st) (h : st.off + (runL P b (st.chunk.drop st.off)).length < st.chunk.length) : Until R P b n st (runL P b (st.chunk.drop st.off)) { st with off := st.off + (runL P b (st.chunk.drop st.off)).length }
  | last {n : Nat} {st : St} (ok : UOk R st) (h : st.off + (runL P b (st.chunk.drop st.off)).length = st.chunk.length) (hd : st.data R 10240 = []) : Until R P b n st (st.chunk.drop st.off) (st.fetch R 10240)
  | more {n : Nat} {st st' : St} {l : List Nat} (ok : UOk R st) (h : st.off + (runL P b (st.chunk.drop st.off)).length = st.chunk.length) (hd : st.data R 10240 ≠ []) (hn : Until R P b n (st.fetch R 10240) l st') : Until R P b (n + 1) st (st.chunk.drop st.off ++ l) st'
theorem getD_drop (l : List Nat) (a j : Nat) : (l.drop a).getD j 0 = l.getD (a + j) 0 := by
  rw [List.getD_eq_getElem?_getD, List.getD_eq_getElem?_getD, List.getElem?_drop]
end Mine
namespace Mine
open PySem.Builtin PySem.Builtin.Str PySem.StrLaws PySem.Calls

/-! ### the stream with signs put back; g: its place is right -/
def InvG (g : Prop) (R : List Nat) (st : St) (p : Nat) : Prop :=
  ∃ (st0 : St) (p0 j : Nat), Inv R st0 p0 ∧ st0.off = st0.chunk.length ∧ st0.buf = st.buf ∧ st0.place = st.place ∧ st0.errs = st.errs ∧
    st.chunk = ((norm R).take p0).drop j ∧ j ≤ p0 ∧ p = j + st.off ∧ st.off ≤ st.chunk.length ∧ (g → (st.pl, st.pc) = ((norm R).take j).foldl adv (0, 0))
theorem invG_start {g : Prop} {R : List Nat} : InvG g R ⟨[], 0, 0, 0, 0, none, 0⟩ 0 :=
  ⟨⟨[], 0, 0, 0, 0, none, 0⟩, 0, 0, inv_start, rfl, rfl, rfl, rfl, rfl, Nat.le_refl _, rfl, Nat.le_refl _, fun _ => rfl⟩
theorem inv_chunk {R : List Nat} {st : St} {p : Nat} (hi : Inv R st p) (h0 : st.off = 0) : st.chunk = ((norm R).take (p + st.chunk.length)).drop p := by
  obtain ⟨A, B, C, hABC, hC, h1, h2, hch, her, hpos, ho, hp, hpl⟩ := hi
  rw [← hABC, norm_three h1 h2, hp, h0, hch, Nat.add_zero, List.take_length_add_append, List.drop_left', List.take_left']
  · rfl
  · rfl
theorem chunk_len {R : List Nat} {ck : List Nat} {p0 j : Nat} (hck : ck = ((norm R).take p0).drop j) (hle : p0 ≤ (norm R).length) : ck.length = p0 - j := by
  rw [hck, List.length_drop, List.length_take, Nat.min_eq_left hle]
theorem chunk_end {R : List Nat} {ck : List Nat} {p0 j : Nat} (hck : ck = ((norm R).take p0).drop j) (hle : p0 ≤ (norm R).length) (hj : j ≤ p0) : p0 = j + ck.length := by
  rw [chunk_len hck hle, Nat.add_sub_cancel' hj]
theorem le_end {p p0 j o c : Nat} (hp : p = j + o) (ho : o ≤ c) (h : p0 = j + c) : p ≤ p0 := by
  rw [hp, h]; exact Nat.add_le_add_left ho j
theorem run_eq {a b c : Nat} (ho : a ≤ c) (h : b ≤ c - a) (hs : ¬ a + b < c) : a + b = c := Nat.le_antisymm (by have := Nat.add_le_add_left h a; rwa [Nat.add_sub_cancel' ho] at this) (Nat.not_lt.mp hs)
theorem invG_fetch {g : Prop} {R : List Nat} {st : St} {p size : Nat} (hi : InvG g R st p) (hR : Plain R) (he : st.off = st.chunk.length) (hs : 2 ≤ size) :
    InvG g R (st.fetch R size) p ∧ decide (st.data R size ≠ []) = decide (p < (norm R).length) := by
  obtain ⟨st0, p0, j, h0, h1, hb, hpl, her, hck, hj, hp, ho, hg⟩ := hi
  have hle := inv_le h0
  have hcl := chunk_len hck hle
  obtain rfl : p = p0 := by rw [hp, he]; exact (chunk_end hck hle hj).symm
  obtain ⟨f1, f2⟩ := inv_fetch (size := size) h0 hR h1 hs
  have hd : st.data R size = st0.data R size := by unfold St.data; rw [hb, hpl]
  have hq := inv_chunk f1 rfl
  have e1 : (st.fetch R size).chunk = (st0.fetch R size).chunk := by show norm _ = norm _; rw [hd]
  have hf := f1
  generalize hst : st0.fetch R size = stf at *
  obtain ⟨ckf, off, erf, plf, pcf, bff, plaf⟩ := stf
  obtain rfl : off = 0 := by have : (st0.fetch R size).off = 0 := rfl; rw [hst] at this; exact this
  have g1 := inv_off hf (Nat.le_refl ckf.length)
  rw [hd]
  refine ⟨⟨_, _, p, g1, rfl, ?_, ?_, ?_, ?_, Nat.le_add_right _ _, rfl, Nat.zero_le _, ?_⟩, f2⟩
  · show bff = _
    have : (st0.fetch R size).buf = bff := by rw [hst]
    rw [← this]
    show (split _).2 = (split _).2
    rw [hd]
  · show plaf = _
    have : (st0.fetch R size).place = plaf := by rw [hst]
    rw [← this]
    show st0.place + _ = st.place + _
    rw [hpl]
  · show erf = _
    have : (st0.fetch R size).errs = erf := by rw [hst]
    rw [← this]
    show st0.errs + _ = st.errs + _
    rw [hd, her]
  · rw [e1]; exact hq
  · intro hgg
    show st.pos st.chunk.length = _
    unfold St.pos
    rw [List.take_length, hg hgg, hck, ← List.foldl_append]
    congr 1
    have := List.take_append_drop j ((norm R).take p)
    rw [List.take_take, Nat.min_eq_left hj] at this
    exact this
theorem invG_p0 {g : Prop} {R : List Nat} {st : St} {p : Nat} (hi : InvG g R st p) : ∃ p0 j, st.chunk = ((norm R).take p0).drop j ∧ j ≤ p0 ∧ p0 ≤ (norm R).length ∧ p = j + st.off ∧ p0 = j + st.chunk.length ∧ st.off ≤ st.chunk.length := by
  obtain ⟨st0, p0, j, h0, h1, hb, hpl, her, hck, hj, hp, ho, hg⟩ := hi
  have hle := inv_le h0
  have hcl := chunk_len hck hle
  exact ⟨p0, j, hck, hj, hle, hp, chunk_end hck hle hj, ho⟩
theorem invG_le {g : Prop} {R : List Nat} {st : St} {p : Nat} (hi : InvG g R st p) : p ≤ (norm R).length := by
  obtain ⟨p0, j, _, _, hle, hp, hcl, ho⟩ := invG_p0 hi
  exact Nat.le_trans (le_end hp ho hcl) hle
theorem invG_off {g : Prop} {R : List Nat} {st : St} {p : Nat} (hi : InvG g R st p) (o : Nat) (ho : o ≤ st.chunk.length) : InvG g R { st with off := o } (p - st.off + o) := by
  obtain ⟨st0, p0, j, h0, h1, hb, hpl, her, hck, hj, hp, _, hg⟩ := hi
  exact ⟨st0, p0, j, h0, h1, hb, hpl, her, hck, hj, by dsimp only; rw [hp, Nat.add_sub_cancel], ho, hg⟩
theorem invG_pos {R : List Nat} {st : St} {p : Nat} (hi : InvG True R st p) : st.pos st.off = ((norm R).take p).foldl adv (0, 0) := by
  obtain ⟨st0, p0, j, h0, h1, hb, hpl, her, hck, hj, hp, ho, hg⟩ := hi
  have hle := inv_le h0
  have hcl := chunk_len hck hle
  unfold St.pos
  rw [hg trivial, hck, ← List.foldl_append]
  congr 1
  have e := List.take_append_drop j ((norm R).take p)
  rw [List.take_take, Nat.min_eq_left (by rw [hp]; exact Nat.le_add_right _ _)] at e
  rw [← e]
  congr 1
  rw [List.drop_take, List.drop_take, List.take_take]
  congr 1
  rw [hp, Nat.add_sub_cancel_left, ← hcl, Nat.min_eq_left ho]
theorem invG_spot {R : List Nat} {st : St} {p : Nat} (hi : InvG True R st p) : ((norm R).take p).foldl adv (1, 0) = ((st.pos st.off).1 + 1, (st.pos st.off).2) := by
  rw [invG_pos hi]
  exact adv_shift _ (0, 0)
theorem invG_st0 {g : Prop} {R : List Nat} {st : St} {p : Nat} (hi : InvG g R st p) : ∃ st0 p0, Inv R st0 p0 ∧ st0.off = st0.chunk.length ∧ st0.buf = st.buf ∧ st0.place = st.place ∧ st0.errs = st.errs ∧ p0 + st.off = p + st.chunk.length := by
  obtain ⟨st0, p0, j, h0, h1, hb, hpl, her, hck, hj, hp, ho, hg⟩ := hi
  have hle := inv_le h0
  have hcl := chunk_len hck hle
  exact ⟨st0, p0, h0, h1, hb, hpl, her, by rw [hp, chunk_end hck hle hj]; exact Nat.add_right_comm _ _ _⟩
theorem invG_ok {g : Prop} {R : List Nat} {st : St} {p : Nat} (hi : InvG g R st p) (hR : R.length ≤ 1000) : Ok R st := by
  obtain ⟨st0, p0, h0, h1, hb, hpl, her, hp⟩ := invG_st0 hi
  obtain ⟨q0, j, hck, hj, hle, hp, hcl, ho⟩ := invG_p0 hi
  obtain ⟨o1, o2, o3, o4, o5⟩ := inv_ok h0 hR
  have := norm_len R
  exact ⟨hR, hpl ▸ o2, le3 (Nat.le_trans (by rw [hcl]; exact Nat.le_add_left _ _ : st.chunk.length ≤ q0) (Nat.le_trans hle (Nat.le_trans this hR))) rfl, her ▸ o4, ho⟩
theorem norm_in : ∀ {l : List Nat} {c : Nat}, c ∈ norm l → c = 10 ∨ c ∈ l
  | l, c, h => by
    unfold norm crs at h
    obtain ⟨d, hd, rfl⟩ := List.mem_map.mp h
    have : ∀ (l : List Nat) (d : Nat), d ∈ crlf l → d = 10 ∨ d ∈ l := by
      intro l
      induction l using crlf.induct with
      | case1 => intro d hd; exact .inr hd
      | case2 c => intro d hd; exact .inr hd
      | case3 c e t h ih =>
        intro d hd
        rw [crlf, if_pos h] at hd
        rcases List.mem_cons.mp hd with rfl | hd
        · exact .inl rfl
        · rcases ih d hd with h | h
          · exact .inl h
          · exact .inr (.tail _ (.tail _ h))
      | case4 c e t h ih =>
        intro d hd
        rw [crlf, if_neg h] at hd
        rcases List.mem_cons.mp hd with rfl | hd
        · exact .inr (.head _)
        · rcases ih d hd with h | h
          · exact .inl h
          · exact .inr (.tail _ h)
    split
    · exact .inl rfl
    · exact this l d hd
theorem invG_uok {g : Prop} {R : List Nat} {st : St} {p : Nat} (hi : InvG g R st p) (hR : R.length ≤ 60) (hc : ∀ c ∈ R, c < 1114112) : UOk R st := by
  obtain ⟨q0, j, hck, hj, hle, hp, hcl, ho⟩ := invG_p0 hi
  obtain ⟨o1, o2, o3, o4, o5⟩ := invG_ok hi (le3 hR rfl)
  have := norm_len R
  refine ⟨o1, o2, le3 (Nat.le_trans (by rw [hcl]; exact Nat.le_add_left _ _ : st.chunk.length ≤ q0) (Nat.le_trans hle (Nat.le_trans this hR))) rfl, o4, ho, fun c h => ?_⟩
  rw [hck] at h
  rcases norm_in (List.mem_of_mem_take (List.mem_of_mem_drop h)) with h | h
  · rw [h]; decide
  · exact hc c h
theorem invG_len {g : Prop} {R : List Nat} {st : St} {p : Nat} (hi : InvG g R st p) : (norm (R.take st.cut)).length + st.off = p + st.chunk.length := by
  obtain ⟨st0, p0, h0, h1, hb, hpl, her, hp⟩ := invG_st0 hi
  have h := inv_until h0
  have e : st.cut = st0.cut := by unfold St.cut; rw [hb, hpl]
  rw [e, Nat.add_right_cancel (h.trans (by rw [h1]))]
  exact hp
theorem invG_end {g : Prop} {R : List Nat} {st : St} {p : Nat} (hi : InvG g R st p) (he : ¬ p < (norm R).length) : st.errs = R.countP isInv ∧ st.off = st.chunk.length := by
  obtain ⟨st0, p0, h0, h1, hb, hpl, her, hp⟩ := invG_st0 hi
  obtain ⟨q0, j, hck, hj, hle, hp2, hcl, ho⟩ := invG_p0 hi
  obtain ⟨h2, h3⟩ := inv_end h0 (by lia)
  have := inv_le h0
  exact ⟨by rw [← her, h2], by lia⟩
theorem invG_place {g : Prop} {R : List Nat} {st : St} {p : Nat} (hi : InvG g R st p) (size : Nat) : (st.fetch R size).place = min (st.place + size) R.length := by
  obtain ⟨st0, p0, h0, h1, hb, hpl, her, hp⟩ := invG_st0 hi
  have h := inv_place h0 size
  rw [← hpl, ← h]
  show st.place + _ = st0.place + _
  rw [hpl]
theorem invG_ple {g : Prop} {R : List Nat} {st : St} {p : Nat} (hi : InvG g R st p) : st.place ≤ R.length := by
  obtain ⟨st0, p0, h0, h1, hb, hpl, her, hp⟩ := invG_st0 hi
  obtain ⟨A, B, C, _, _, _, _, _, _, _, _, _, q⟩ := h0
  exact hpl ▸ q
theorem invG_cutR {g : Prop} {R : List Nat} {st : St} {p size : Nat} (hi : InvG g R st p) (hR : Plain R) : cutR R st.cut (st.fetch R size).place = (st.fetch R size).cut := by
  obtain ⟨st0, p0, h0, h1, hb, hpl, her, hp⟩ := invG_st0 hi
  have h := inv_cutR (size := size) h0 hR
  have hd : st.data R size = st0.data R size := by unfold St.data; rw [hb, hpl]
  have e : st.cut = st0.cut := by unfold St.cut; rw [hb, hpl]
  have e2 : (st.fetch R size).place = (st0.fetch R size).place := by show st.place + _ = st0.place + _; rw [hpl]
  have e3 : (st.fetch R size).cut = (st0.fetch R size).cut := by
    unfold St.cut
    rw [e2]
    show _ - (split _).2.toList.length = _ - (split _).2.toList.length
    rw [hd]
  rw [e, e2, e3, h]
/-- a sign read out of the chunk at hand -/
theorem invG_step {g : Prop} {R : List Nat} {st : St} {p : Nat} (hi : InvG g R st p) (ho : st.off < st.chunk.length) : InvG g R { st with off := st.off + 1 } (p + 1) ∧ st.chunk.getD st.off 0 = (norm R).getD p 0 := by
  obtain ⟨q0, j, hck, hj, hle, hp, hcl, _⟩ := invG_p0 hi
  have h := invG_off hi (st.off + 1) ho
  rw [show p - st.off + (st.off + 1) = p + 1 by rw [hp, Nat.add_sub_cancel]; rfl] at h
  refine ⟨h, ?_⟩
  rw [hck, getD_drop, hp, List.getD_eq_getElem?_getD, List.getD_eq_getElem?_getD, List.getElem?_take_of_lt (by rw [hcl]; exact Nat.add_lt_add_left ho j)]
theorem invG_char {g : Prop} {R : List Nat} {st : St} {p : Nat} (hi : InvG g R st p) (hR : Plain R) (hp : p < (norm R).length) :
    ∃ st1, st.charR R = (some ((norm R).getD p 0), st1) ∧ InvG g R st1 (p + 1) ∧ 0 < st1.off ∧ (st.off < st.chunk.length → st1 = { st with off := st.off + 1 }) ∧ (¬ st.off < st.chunk.length → st1 = { st.fetch R 10240 with off := 1 }) := by
  by_cases h1 : st.off < st.chunk.length
  · obtain ⟨g1, g2⟩ := invG_step hi h1
    refine ⟨_, ?_, g1, Nat.succ_pos _, fun _ => rfl, fun h => absurd h1 h⟩
    unfold St.charR
    rw [if_pos h1, g2]
  · have he : st.off = st.chunk.length := by
      obtain ⟨q0, j, hck, hj, hle, hp, hcl, ho⟩ := invG_p0 hi
      exact Nat.le_antisymm ho (Nat.not_lt.mp h1)
    obtain ⟨g1, g2⟩ := invG_fetch (size := 10240) hi hR he (by decide)
    have hd : st.data R 10240 ≠ [] := by
      have : decide (st.data R 10240 ≠ []) = true := by rw [g2]; exact decide_eq_true hp
      exact of_decide_eq_true this
    have ho : (st.fetch R 10240).off < (st.fetch R 10240).chunk.length := List.length_pos_iff.mpr (fetch_ne hd)
    obtain ⟨g3, g4⟩ := invG_step g1 ho
    refine ⟨_, ?_, g3, Nat.succ_pos _, fun h => absurd h h1, fun _ => rfl⟩
    unfold St.charR
    rw [if_neg h1, if_neg hd, ← g4]
    rfl
theorem invG_char_end {g : Prop} {R : List Nat} {st : St} {p : Nat} (hi : InvG g R st p) (hR : Plain R) (hp : ¬ p < (norm R).length) :
    st.charR R = (none, st.fetch R 10240) ∧ InvG g R (st.fetch R 10240) p := by
  obtain ⟨_, he⟩ := invG_end hi hp
  obtain ⟨g1, g2⟩ := invG_fetch (size := 10240) hi hR he (by decide)
  have hd : st.data R 10240 = [] := by
    refine Decidable.not_not.mp fun h => hp ?_
    have : decide (st.data R 10240 ≠ []) = true := decide_eq_true h
    rw [g2] at this
    exact of_decide_eq_true this
  refine ⟨?_, g1⟩
  unfold St.charR
  rw [if_neg (by rw [he]; exact Nat.lt_irrefl _), if_pos hd]
/-- a sign put back -/
theorem invG_unget {g : Prop} {R : List Nat} {st : St} {p : Nat} (hi : InvG g R st (p + 1)) (hg : g → 0 < st.off) : InvG g R (st.unget ((norm R).getD p 0)) p ∧ (0 < st.off → st.chunk.getD (st.off - 1) 0 = (norm R).getD p 0) := by
  obtain ⟨st0, p0, j, h0, h1, hb, hpl, her, hck, hj, hp, ho, hgg⟩ := hi
  have hle := inv_le h0
  have hcl := chunk_end hck hle hj
  have hlt : p < p0 := Nat.le_trans (Nat.le_of_eq hp) (Nat.le_trans (Nat.add_le_add_left ho j) (Nat.le_of_eq hcl.symm))
  have hsb : 0 < st.off → p = j + (st.off - 1) := fun h => by rw [← Nat.add_sub_assoc h, ← hp]; rfl
  refine ⟨?_, fun h => ?_⟩
  · unfold St.unget
    split
    · rename_i hz
      have hj2 : j = p + 1 := by rw [hp, hz]; rfl
      refine ⟨st0, p0, p, h0, h1, hb, hpl, her, ?_, Nat.le_of_lt hlt, ?_, Nat.le_trans (Nat.le_of_eq hz) (Nat.zero_le _), fun q => absurd (hg q) (by rw [hz]; exact Nat.lt_irrefl 0)⟩
      · show (norm R).getD p 0 :: st.chunk = _
        have hlt2 : p < ((norm R).take p0).length := by rw [List.length_take, Nat.min_eq_left hle]; exact hlt
        rw [List.drop_eq_getElem_cons hlt2, hck, hj2]
        congr 1
        rw [List.getElem_take, List.getD_eq_getElem?_getD, List.getElem?_eq_getElem (Nat.lt_of_lt_of_le hlt hle)]
        rfl
      · show p = p + st.off
        rw [hz]; rfl
    · rename_i hz
      exact ⟨st0, p0, j, h0, h1, hb, hpl, her, hck, hj, hsb (Nat.pos_of_ne_zero hz), Nat.le_trans (Nat.sub_le _ _) ho, hgg⟩
  · rw [hck, getD_drop, List.getD_eq_getElem?_getD, List.getD_eq_getElem?_getD, List.getElem?_take_of_lt (by rw [← hsb h]; exact hlt), ← hsb h]
/-- how the cut goes on, pieces fetched till e lies in the chunk -/
inductive Goes (R : List Nat) (e : Nat) : Nat → Nat → Nat → Nat → Prop
  | stay {c t : Nat} (h : e < (norm (R.take c)).length ∨ c = R.length) : Goes R e c t c t
  | step {c t c' t' : Nat} (h : (norm (R.take c)).length ≤ e) (h2 : c < R.length) (hn : Goes R e (cutR R c R.length) R.length c' t') : Goes R e c t c' t'
theorem norm_rest {R : List Nat} {ck : List Nat} {p0 j off p : Nat} (hck : ck = ((norm R).take p0).drop j) (hp : p = j + off) (hp0 : p0 = j + ck.length) (ho : off ≤ ck.length) (hle : p0 ≤ (norm R).length) : (norm R).drop p = ck.drop off ++ (norm R).drop p0 := by
  have e := List.take_append_drop p0 (norm R)
  have h : (norm R).drop p = ((norm R).take p0 ++ (norm R).drop p0).drop p := by rw [e]
  have hl : p ≤ ((norm R).take p0).length := by
    rw [List.length_take, Nat.min_eq_left hle]
    exact le_end hp ho hp0
  rw [h, List.drop_append_of_le_length hl, hck, List.drop_drop, hp]
theorem invG_cut_lt {g : Prop} {R : List Nat} {st : St} {p size : Nat} (hi : InvG g R st p) (hs : 2 ≤ size) : st.data R size = [] ↔ st.cut = R.length := by
  obtain ⟨st0, p0, h0, h1, hb, hpl, her, hp⟩ := invG_st0 hi
  obtain ⟨A, B, C, hABC, hC, hl, ht, hn, hch, he, hp3, hbuf⟩ := inv_cut h0
  have hple := invG_ple hi
  have e : st.cut = st0.cut := by unfold St.cut; rw [hb, hpl]
  have hlen := congrArg List.length hABC
  have hC2 := congrArg List.length hC
  rw [List.length_append, List.length_append] at hlen
  rw [List.length_append, List.length_drop] at hC2
  rw [List.length_append] at hl
  have hd : (st.data R size).length = st.buf.toList.length + min size (R.length - st.place) := by
    unfold St.data
    rw [List.length_append, partOf_len]
  rw [hb] at hC2
  constructor
  · intro h
    rw [h, List.length_nil] at hd
    lia
  · intro h
    refine List.eq_nil_of_length_eq_zero ?_
    lia
theorem fetch_nil {R : List Nat} {st : St} (hd : st.data R 10240 = []) : (st.fetch R 10240).cut = st.cut ∧ (st.fetch R 10240).place = st.place := by
  have h1 : (st.fetch R 10240).place = st.place := by
    show st.place + (partOf R 10240 st.place).length = st.place
    have : partOf R 10240 st.place = [] := (List.append_eq_nil_iff.mp hd).2
    rw [this]; rfl
  refine ⟨?_, h1⟩
  have hb : st.buf.toList = [] := (List.append_eq_nil_iff.mp hd).1
  unfold St.cut
  rw [h1, hb]
  show _ - (split (st.data R 10240)).2.toList.length = _
  rw [hd]
  rfl
def UntilIs (g : Prop) (R : List Nat) (P : Nat → Bool) (b : Bool) (k : Nat) (st : St) (p : Nat) : Prop :=
  ∃ n l st', n ≤ k ∧ Until R P b n st l st' ∧ l = runL P b ((norm R).drop p) ∧ InvG g R st' (p + l.length) ∧ (p + l.length + st.off < p + st.chunk.length → st' = { st with off := st.off + l.length }) ∧ Goes R (p + l.length) st.cut st.place st'.cut st'.place
theorem until_stop {g : Prop} {R : List Nat} {P : Nat → Bool} {b : Bool} {k p : Nat} {st : St} (ok : UOk R st) (hi : InvG g R st p) (hs : st.off + (runL P b (st.chunk.drop st.off)).length < st.chunk.length) : UntilIs g R P b k st p := by
  have hlen := invG_len hi
  have ho : st.off ≤ st.chunk.length := ok.ho
  refine ⟨0, _, _, Nat.zero_le _, .stop ok hs, ?_, ?_, fun _ => rfl, .stay (.inl (by lia))⟩
  · obtain ⟨q0, j, hck, hj, hle, hp, hcl, ho⟩ := invG_p0 hi
    rw [norm_rest hck hp hcl ho hle]
    clear hlen hcl hp hle hj hck
    exact (runL_stop (by rw [List.length_drop]; exact Nat.lt_sub_of_add_lt (by rw [Nat.add_comm]; exact hs))).symm
  · have hpo : st.off ≤ p := by obtain ⟨q0, j, _, _, _, hp, _, _⟩ := invG_p0 hi; rw [hp]; exact Nat.le_add_left _ _
    have h := invG_off hi _ (Nat.le_of_lt hs)
    rw [← Nat.add_assoc, Nat.sub_add_cancel hpo] at h
    exact h
theorem until_last {g : Prop} {R : List Nat} {P : Nat → Bool} {b : Bool} {k p : Nat} {st : St} (hR : Plain R) (ok : UOk R st) (hi : InvG g R st p) (hs2 : st.off + (runL P b (st.chunk.drop st.off)).length = st.chunk.length) (hd : st.data R 10240 = []) : UntilIs g R P b k st p := by
  obtain ⟨q0, j, hck, hj, hle, hp, hcl, ho⟩ := invG_p0 hi
  have hi2 := invG_off hi st.chunk.length (Nat.le_refl _)
  obtain ⟨f1, f2⟩ := invG_fetch (size := 10240) hi2 hR rfl (by decide)
  have hall : runL P b (st.chunk.drop st.off) = st.chunk.drop st.off := runL_all (by rw [List.length_drop, ← hs2, Nat.add_sub_cancel_left])
  have hnot : ¬ (p - st.off + st.chunk.length < (norm R).length) := fun h => by
    have h2 : decide (({ st with off := st.chunk.length } : St).data R 10240 ≠ []) = true := by rw [f2]; exact decide_eq_true h
    exact of_decide_eq_true h2 hd
  have e2 : p - st.off + st.chunk.length = q0 := by rw [hp, Nat.add_sub_cancel, hcl]
  have hq0 : q0 = (norm R).length := Nat.le_antisymm hle (Nat.not_lt.mp (e2 ▸ hnot))
  obtain ⟨h2, h1⟩ := fetch_nil hd
  have e : p + (st.chunk.length - st.off) = p - st.off + st.chunk.length := by rw [hp, Nat.add_sub_cancel, Nat.add_assoc, Nat.add_sub_cancel' ho]
  refine ⟨0, _, _, Nat.zero_le _, .last ok hs2 hd, ?_, ?_, fun h => ?_, ?_⟩
  · rw [norm_rest hck hp hcl ho hle, hq0, List.drop_length, List.append_nil, hall]
  · rw [List.length_drop, e]
    exact f1
  · rw [List.length_drop, e, e2, hq0, ← hq0, hcl, hp] at h
    exact absurd h (by rw [Nat.add_right_comm]; exact Nat.lt_irrefl _)
  · rw [h1, h2]
    exact .stay (.inr ((invG_cut_lt hi (size := 10240) (by decide)).mp hd))
theorem invG_until {g : Prop} {R : List Nat} (hR : Plain R) (hl : R.length ≤ 60) (hcd : ∀ c ∈ R, c < 1114112) (P : Nat → Bool) (b : Bool) : ∀ (k : Nat) (st : St) (p : Nat), InvG g R st p → (norm R).length + st.off ≤ k + p + st.chunk.length → UntilIs g R P b k st p := by
  intro k
  induction k with
  | zero =>
    intro st p hi hk
    have ok := invG_uok hi hl hcd
    have ho : st.off ≤ st.chunk.length := ok.ho
    have hrl := runL_le P b (st.chunk.drop st.off)
    rw [List.length_drop] at hrl
    by_cases hs : st.off + (runL P b (st.chunk.drop st.off)).length < st.chunk.length
    · exact until_stop ok hi hs
    · refine until_last hR ok hi (run_eq ho hrl hs) ?_
      have hi2 := invG_off hi st.chunk.length (Nat.le_refl _)
      obtain ⟨f1, f2⟩ := invG_fetch (size := 10240) hi2 hR rfl (by decide)
      refine Decidable.not_not.mp fun h => ?_
      have : decide (({ st with off := st.chunk.length } : St).data R 10240 ≠ []) = true := decide_eq_true h
      rw [f2] at this
      have := of_decide_eq_true this
      clear hs hrl f2
      lia
  | succ k ih =>
    intro st p hi hk
    have ok := invG_uok hi hl hcd
    have ho : st.off ≤ st.chunk.length := ok.ho
    have hrl := runL_le P b (st.chunk.drop st.off)
    rw [List.length_drop] at hrl
    by_cases hs : st.off + (runL P b (st.chunk.drop st.off)).length < st.chunk.length
    · exact until_stop ok hi hs
    have hs2 : st.off + (runL P b (st.chunk.drop st.off)).length = st.chunk.length := run_eq ho hrl hs
    by_cases hd : st.data R 10240 = []
    · exact until_last hR ok hi hs2 hd
    clear hs hrl
    have hi2 := invG_off hi st.chunk.length (Nat.le_refl _)
    obtain ⟨f1, f2⟩ := invG_fetch (size := 10240) hi2 hR rfl (by decide)
    have hall : runL P b (st.chunk.drop st.off) = st.chunk.drop st.off := runL_all (by rw [List.length_drop, ← hs2, Nat.add_sub_cancel_left])
    clear f2 hi2
    have hne : 0 < (st.fetch R 10240).chunk.length := List.length_pos_iff.mpr (fetch_ne hd)
    obtain ⟨q0, j, hck, hj, hle, hp, hcl, _⟩ := invG_p0 hi
    have hpo : p - st.off + st.chunk.length = q0 := by rw [hp, Nat.add_sub_cancel, hcl]
    rw [hpo] at f1
    have e : ∀ n, p + (st.chunk.length - st.off + n) = q0 + n := fun n => by rw [hp, ← Nat.add_assoc, Nat.add_assoc j, Nat.add_sub_cancel' ho, hcl]
    obtain ⟨n, l2, st', hn, hU, hl2, hI, hsame, hgo⟩ := ih (st.fetch R 10240) q0 f1 (by
      show (norm R).length + 0 ≤ _
      lia)
    have hdl : (st.chunk.drop st.off).length = st.chunk.length - st.off := List.length_drop
    refine ⟨n + 1, _, st', Nat.succ_le_succ hn, .more ok hs2 hd hU, ?_, ?_, fun h => ?_, ?_⟩
    · rw [norm_rest hck hp hcl ho hle, runL_app (by rw [hall]), hl2]
    · rw [List.length_append, hdl, e]
      exact hI
    · rw [List.length_append, hdl] at h
      clear hk hne hl2 hI hsame hgo f1 hall hdl
      lia
    · rw [List.length_append, hdl, e]
      have hcutn := mt (invG_cut_lt hi (size := 10240) (by decide)).mpr hd
      have hcutle : st.cut ≤ R.length := by have := invG_ple hi; unfold St.cut; lia
      have h1 := invG_place hi 10240
      have hlen := invG_len hi
      have h2 := invG_cutR (size := 10240) hi hR
      have h3 : (st.fetch R 10240).place = R.length := by rw [h1]; exact Nat.min_eq_right (by lia)
      rw [h3] at h2 hgo
      refine .step ?_ (Nat.lt_of_le_of_ne hcutle hcutn) ?_
      · clear hgo hsame hI hl2 h1 h2 h3 hk hne hall
        lia
      rw [h2]
      exact hgo
end Mine
namespace Mine
open PySem.Builtin PySem.Builtin.Str PySem.StrLaws PySem.Calls

/-! ### law 2: what its names say of the stream -/
def Rel (R : List Nat) (st : St) (u a b : Int) : Prop := u = -1 ∨ (u = ((norm (R.take st.cut)).length : Nat) ∧ a = (st.cut : Nat) ∧ b = (st.place : Nat))
def Rel3 (R : List Nat) (st : St) (k : Int) (p : Nat) (u a b : Int) : Prop := Rel R st u a b ∨ (0 < k.fmod 3 ∧ (p : Int) + 1 = u)
/-! ### one sign over and over -/
end Mine
namespace Mine
open PySem.Builtin PySem.Builtin.Str PySem.StrLaws PySem.Calls

/-! ### a comprehension over a text, its list kept under a name -/
section
variable {prog : Program} {w : World} {A : Around} {E : Value → Shared → Prop} {s : Shared} {h₀ : Heap} {L : Addr} {m : Str → Option Value} {env : Env}
end
end Mine
namespace Mine
open PySem.Builtin PySem.Builtin.Str PySem.StrLaws PySem.Calls

/-! ### a loop whose ledger grows -/
def GrowEnd (h₀ : Heap) (L : Addr) (J : (Str → Option Value) → List (Addr × Obj) → Prop) (own : List (Addr × Obj)) (I : Addr) (s₁ s₂ : Shared) : Prop :=
  ∃ h' tk m' nx, s₂ = { s₁ with heap := h', toks := tk } ∧ Fr h₀ L h' m' ∧ News h₀ L h' (own ++ nx) ∧ (∀ p ∈ nx, p.1 ≠ I) ∧ J m' nx
def GrowPost (h₀ : Heap) (L : Addr) (J : (Str → Option Value) → List (Addr × Obj) → Prop) (own : List (Addr × Obj)) (I : Addr) (s₁ : Shared) (f : Flow) (s₂ : Shared) : Prop :=
  match f with | .next => GrowEnd h₀ L J own I s₁ s₂ | .cont => GrowEnd h₀ L J own I s₁ s₂ | _ => False
theorem grow_end {h₀ h' : Heap} {L : Addr} {m' : Str → Option Value} {own big : List (Addr × Obj)} {I : Addr} {J : (Str → Option Value) → List (Addr × Obj) → Prop} {s₁ : Shared} {tk : Nat} (nx : List (Addr × Obj)) (F : Fr h₀ L h' m') (N : News h₀ L h' big) (hsub : ∀ p ∈ own ++ nx, p ∈ big) (hn : ∀ p ∈ nx, p.1 ≠ I) (hj : J m' nx) :
    GrowPost h₀ L J own I s₁ .next { s₁ with heap := h', toks := tk } := ⟨h', tk, m', nx, rfl, F, fun p hp => N p (hsub p hp), hn, hj⟩
section
variable {prog : Program} {w : World} {A : Around} {E : Value → Shared → Prop} {s : Shared} {env : Env} {h₀ : Heap} {x : PySem.Str} {body : List Stmt} {Q : Flow → Shared → Prop}
theorem loop_Lg {l : Addr} {vs : List Value} {nn : Nat} {m₀ : PySem.Str → Option Value} {news : List (Addr × Obj)} (J : (PySem.Str → Option Value) → Nat → (PySem.Str → Option Value) → List (Addr × Obj) → Prop)
    (hh : A.handled = none) (hl : (l, W.listOf vs.toArray nn) ∈ news) (F : Fr h₀ env.locals s.heap m₀) (N : News h₀ env.locals s.heap news) (hj : J m₀ 0 m₀ news)
    (turn : ∀ I i v m₁ news₁ h tk own, vs[i]? = some v → (∃ oI, (I, oI) ∈ own) → (∀ p ∈ own, p.1 = I ∨ p.1 = l) → (∀ p ∈ news₁, p.1 ≠ I) → (l, W.listOf vs.toArray nn) ∈ news₁ → J m₀ i m₁ news₁ → Fr h₀ env.locals h (fun y => if y = x then some v else m₁ y) → News h₀ env.locals h (own ++ news₁) →
      wpAny (model prog w) A (execs body env) (GrowPost h₀ env.locals (fun m' nx => (l, W.listOf vs.toArray nn) ∈ nx ∧ J m₀ (i + 1) m' nx) own I { s with heap := h, toks := tk }) E { s with heap := h, toks := tk })
    (done : ∀ m₁ news₁ h tk, (l, W.listOf vs.toArray nn) ∈ news₁ → J m₀ vs.length m₁ news₁ → Fr h₀ env.locals h m₁ → News h₀ env.locals h news₁ → Q .next { s with heap := h, toks := tk }) :
    wpAny (model prog w) A (pyIter (.ref l)) (fun it s₂ => LoopAtV prog w A h₀ env x body Q E it s₂) E s := by
  have at0 := (N _ hl).1
  have isl : s.heap.IsList l vs.toArray := ⟨_, at0, rfl, nn, rfl⟩
  have walks := Walks.list (prog := prog) (w := w) hh s.heap.objs.size l (Nat.ne_of_lt (Heap.lt_size at0)) vs.toArray
  have apart : ∀ p ∈ news, p.1 ∉ [s.heap.objs.size] := fun p hp => by rw [List.mem_singleton]; exact N.apart p hp
  have own1 : env.locals ∉ [s.heap.objs.size, l] := by
    simp only [List.mem_cons, List.not_mem_nil, or_false, not_or]
    exact ⟨Nat.ne_of_lt F.ns.lt, (N _ hl).2.1.symm⟩
  have fresh : ∀ b ∈ [s.heap.objs.size], h₀.get? b = none := by simpa using next_is_new F
  have one : ∀ i v m₁ news₁ h tk own, vs[i]? = some v → ((l, W.listOf vs.toArray nn) ∈ news₁ ∧ J m₀ i m₁ news₁) → (∀ p ∈ news₁, p.1 ∉ [s.heap.objs.size]) → (∀ p ∈ own, p.1 ∈ [s.heap.objs.size, l]) → (∃ o, (s.heap.objs.size, o) ∈ own) →
      Fr h₀ env.locals h (fun y => if y = x then some v else m₁ y) → News h₀ env.locals h (own ++ news₁) →
      wpAny (model prog w) A (execs body env) (LoopStepV h₀ env.locals [s.heap.objs.size] own (fun m nx => (l, W.listOf vs.toArray nn) ∈ nx ∧ J m₀ (i + 1) m nx) { s with heap := h, toks := tk } (fun v s' => Q (.ret v) s') fun s' => Q .next s') E { s with heap := h, toks := tk } :=
    fun i v m₁ news₁ h tk own hv hJ off mine hI F₁ N₁ =>
      wpAny_mono (turn _ i v m₁ news₁ h tk own hv hI (fun p hp => by simpa using mine p hp) (fun p hp => by simpa using off p hp) hJ.1 hJ.2 F₁ N₁) (fun f s₂ q => by
        have step : GrowEnd h₀ env.locals (fun m' nx => (l, W.listOf vs.toArray nn) ∈ nx ∧ J m₀ (i + 1) m' nx) own s.heap.objs.size { s with heap := h, toks := tk } s₂ → LoopStepU h₀ env.locals [s.heap.objs.size] own (fun m nx => (l, W.listOf vs.toArray nn) ∈ nx ∧ J m₀ (i + 1) m nx) { s with heap := h, toks := tk } .next s₂ :=
          fun ⟨_, _, _, _, e, F₂, N₂, apart₂, hJ₂⟩ => e ▸ LoopStepU.intro F₂ N₂ (fun p hp => by simpa using apart₂ p hp) hJ₂
        cases f with
        | next => exact LoopStepV.ofU (step q)
        | cont => exact .cont (step q)
        | ret v => exact absurd q id
        | brk => exact absurd q id) fun _ _ q => q
  exact wpAny_pyIter_list isl ⟨_, _, _, _, _, _, m₀, news, fun i m nx => (l, W.listOf vs.toArray nn) ∈ nx ∧ J m₀ i m nx, rfl, walks, own1, fresh, apart, ⟨⟨_, Heap.get?_push_size _ rfl, rfl, rfl⟩, isl.push _⟩, F.push _, N.grown fun _ _ => Heap.get?_push_of_some _, ⟨hl, hj⟩,
    fun i v m₁ news₁ s₁ own ⟨h, tk, e⟩ _ hv hJ off mine _ held ⟨⟨o, ho, _⟩, _⟩ F₁ N₁ => by
      subst e
      exact one i v m₁ news₁ h tk own ((List.getElem?_toArray (xs := vs)).symm.trans hv) hJ off mine ⟨o, held _ (.head _) (next_is_new F) o ho⟩ F₁ N₁,
    fun h tk m nx F₁ N₁ _ hJ => done m nx h tk hJ.1 hJ.2 F₁ N₁⟩
end

/-! ### a list of places -/
abbrev tup2 (a b : Int) (t u : Tok) : Obj := { cls := .type "tuple", data := .seq #[.int a t, .int b u] }
def PlOk (T : List Nat) (n : Nat) (ws : List Value) (r : List (Addr × Obj)) : Prop :=
  ws.length = n + 1 ∧ ∀ i v, ws[i]? = some v → ∃ (Ti : Nat) (a b : Int) (t1 t2 : Tok), v = .ref Ti ∧ (Ti, tup2 a b t1 t2) ∈ r ∧ a = ((T.take i).foldl adv (1, 0)).1 ∧ b = ((T.take i).foldl adv (1, 0)).2
theorem plv_a {P : Nat × Nat} {c : Nat} {a : Int} (ha : a = P.1) (hc : [c] = [10]) : a + 1 = ((adv P c).1 : Nat) := by
  obtain rfl : c = 10 := by simpa using hc
  rw [ha]; rfl
theorem plv_b {P : Nat × Nat} {c : Nat} {a : Int} (ha : a = P.1) (hc : ¬ [c] = [10]) : a = ((adv P c).1 : Nat) := by
  have h : ¬ c = 10 := fun e => hc (by rw [e])
  rw [ha]; simp [adv, h]
theorem plv_c {P : Nat × Nat} {c : Nat} (hc : [c] = [10]) : (0 : Int) = ((adv P c).2 : Nat) := by
  obtain rfl : c = 10 := by simpa using hc
  rfl
theorem plv_d {P : Nat × Nat} {c : Nat} {b : Int} (hb : b = P.2) (hc : ¬ [c] = [10]) : b + 1 = ((adv P c).2 : Nat) := by
  have h : ¬ c = 10 := fun e => hc (by rw [e])
  rw [hb]; simp [adv, h]

def PlJ (D9 : Nat) (T : List Nat) (news : List (Addr × Obj)) (m₀ : Str → Option Value) (i : Nat) (m' : Str → Option Value) (nx : List (Addr × Obj)) : Prop :=
  ∃ (ws : List Value) (n2 : Nat) (r : List (Addr × Obj)), nx = (D9, W.listOf ws.toArray n2) :: r ∧ (∀ p ∈ r, p.1 ≠ D9) ∧ (∀ p ∈ news, p ∈ r) ∧ PlOk T i ws r ∧ ∃ u v y : Option Value, m' = fun z => if z = Str.ofString "sign" then u else if z = Str.ofString "line" then v else if z = Str.ofString "column" then y else m₀ z
/-! ### the texts of law 4 -/
def SG4 : List (List Nat) := [[97], [10], [13], [60], [13, 10], [1], [32], [233], [64976], [12], [0], [128512]]
def sgn4 (n : Int) : List Nat := SG4.getD (n.fmod 12).toNat []
def nums4 (ns : List Int) : List Int := if ns = [] then [13] else ns.take 16
def raw4 (ns : List Int) : List Nat := ((nums4 ns).map sgn4).flatten
def SS4 : List (List Nat) := [[60, 10], [97, 10, 32], [], [1, 64976, 97, 60, 10], [13, 233, 0], [128512, 12]]
abbrev sg (l : List Nat) : List Str := l.map fun c => S [c]
theorem nl_str : Str.ofString "\n" = S [10] := by decide +kernel
theorem fmod12 (n : Int) : n.fmod 12 = 0 ∨ n.fmod 12 = 1 ∨ n.fmod 12 = 2 ∨ n.fmod 12 = 3 ∨ n.fmod 12 = 4 ∨ n.fmod 12 = 5 ∨ n.fmod 12 = 6 ∨ n.fmod 12 = 7 ∨ n.fmod 12 = 8 ∨ n.fmod 12 = 9 ∨ n.fmod 12 = 10 ∨ n.fmod 12 = 11 := by
  have h1 := Int.fmod_nonneg_of_pos n (show (0 : Int) < 12 by decide)
  have h2 := Int.fmod_lt_of_pos n (show (0 : Int) < 12 by decide)
  obtain ⟨k, hk⟩ := Int.eq_ofNat_of_zero_le h1
  rw [hk] at h2 ⊢
  have h3 : k < 12 := Int.ofNat_lt.mp h2
  clear h1 h2 hk
  revert k
  decide
/-! ### lists and tuples of signs -/
theorem sg_len {vs : List Value} {l : List Nat} (h : StrsAre vs (sg l)) : vs.length = l.length := by rw [StrsAre.length h, List.length_map]
section
variable {prog : Program} {w : World} {A : Around} {E : Value → Shared → Prop} {s : Shared}
theorem len_sg {a : Addr} {vs : List Value} {l : List Nat} {Q : Value → Shared → Prop} (hl : s.heap.IsList a vs.toArray) (hi : StrsAre vs (sg l)) (hfit : l.length ≤ 1000000)
    (h : Q (.int l.length (s.toks + 1)) { s with toks := s.toks + 1 + 1 }) : wpAny (model prog w) A (call (.builtin "len") [.ref a]) Q E s := by
  have e : (sg l).length = l.length := List.length_map ..
  refine len_strsA hl hi (by rw [e]; lia) ?_
  rw [e]
  exact h
theorem in_sg {T : Addr} {ts : List Value} {l : List Nat} {c : Nat} {u : Tok} {Q : Value → Shared → Prop} (ht : IsTup s.heap T ts.toArray) (hi : StrsAre ts (sg l)) (hu : A.units + 64 < cLine) (h : Q (.bool (decide (c ∈ l))) s) :
    wpAny (model prog w) A (compareOp .In (.str (S [c]) u) (.ref T)) Q E s := by
  have e : (sg l).any (· == S [c]) = decide (c ∈ l) := by
    rw [Bool.eq_iff_iff, List.any_eq_true, decide_eq_true_eq]
    constructor
    · rintro ⟨y, hy, e⟩
      obtain ⟨d, hd, rfl⟩ := List.mem_map.mp hy
      have := S_inj.mp (beq_iff_eq.mp e)
      simp only [List.cons.injEq, and_true] at this
      exact this ▸ hd
    · intro h
      exact ⟨_, List.mem_map.mpr ⟨c, h, rfl⟩, beq_self_eq_true _⟩
  refine in_tuple_strs ht hi ?_
  rw [e]
  exact h
end
/-- where the law's names stand in the stream -/
def Rel4 (R : List Nat) (st : St) (u a b : Int) : Prop := u = ((norm (R.take st.cut)).length : Nat) ∧ a = (st.cut : Nat) ∧ b = (st.place : Nat)
end Mine
namespace Mine
open PySem.Builtin PySem.Builtin.Str PySem.StrLaws PySem.Calls

/-! ### law 4: a sign read, its names -/
def Same4 (R : List Nat) (st st1 : St) (p : Nat) : Prop := (p : Int) ≠ ((norm (R.take st.cut)).length : Int) ∧ st1.cut = st.cut ∧ st1.place = st.place
def Next4 (R : List Nat) (st st1 : St) (p : Nat) : Prop := (p : Int) = ((norm (R.take st.cut)).length : Int) ∧ st1.place = Min.min (st.place + R.length) R.length ∧ 0 < st1.place ∧ cutR R st.cut st1.place = st1.cut
theorem run_all0 {l : List Nat} : runL (fun c => decide (c ∈ ([] : List Nat))) false l = l := by
  induction l with
  | nil => rfl
  | cons a r ih =>
    unfold runL at ih ⊢
    rw [List.takeWhile_cons]
    simp only [List.not_mem_nil, decide_false, beq_self_eq_true, if_true] at ih ⊢
    rw [ih]
theorem sg_at {vs : List Value} {l : List Nat} {i : Nat} {v : Value} (h : StrsAre vs (sg l)) (hv : vs[i]? = some v) : ∃ (c : Nat) (t : Tok), l[i]? = some c ∧ v = .str (S [c]) t := by
  have hi : i < l.length := by
    have := (List.getElem?_eq_some_iff.mp hv).1
    rw [sg_len h] at this
    exact this
  have hc : l[i]? = some l[i] := List.getElem?_eq_getElem hi
  obtain ⟨t, ht⟩ := StrsAre.at h (show (sg l)[i]? = some (S [l[i]]) by rw [List.getElem?_map, hc]; rfl)
  rw [hv] at ht
  exact ⟨_, t, hc, Option.some.inj ht⟩
/-! the cut goes on, piece by piece -/
/-! ### runs of a list of signs -/
theorem strs_take : ∀ {vs : List Value} {ns : List Str} (n : Nat), StrsAre vs ns → StrsAre (vs.take n) (ns.take n)
  | _, _, 0, _ => by simp only [List.take_zero]; exact .nil
  | _, _, n + 1, .nil => by simp only [List.take_nil]; exact .nil
  | _, _, n + 1, .cons i t h => by simp only [List.take_succ_cons]; exact .cons i t (strs_take n h)
theorem strs_drop : ∀ {vs : List Value} {ns : List Str} (n : Nat), StrsAre vs ns → StrsAre (vs.drop n) (ns.drop n)
  | _, _, 0, h => by simpa only [List.drop_zero] using h
  | _, _, n + 1, .nil => by simp only [List.drop_nil]; exact .nil
  | _, _, n + 1, .cons i t h => by simp only [List.drop_succ_cons]; exact strs_drop n h
section
variable {prog : Program} {w : World} {A : Around} {E : Value → Shared → Prop} {s : Shared} {h₀ : Heap} {L l : Addr} {m : PySem.Str → Option Value} {news : List (Addr × Obj)} {value slice : PySem.Expr} {vs : List Value} {T : List Nat} {Q : Value → Shared → Prop}
theorem from_L {a : Nat} {u : Tok} (F : Fr h₀ L s.heap m) (N : News h₀ L s.heap news) (hl : s.heap.IsList l vs.toArray) (hI : StrsAre vs (sg T))
    (hab : a ≤ T.length) (hz : T.length ≤ 10000)
    (h : ∀ D ws h', Fr h₀ L h' m → News h₀ L h' ((D, W.listOf (List.toArray ws) 0) :: news) → (∀ p ∈ news, p.1 < D) → StrsAre ws (sg (T.drop a)) → Q (.ref D) { s with heap := h' })
    (hs : subscripted slice false (.ref l) (.ref s.heap.objs.size) = operate [.ref s.heap.objs.size, .ref l] (getItem (.ref l) (.ref s.heap.objs.size)) := by rfl) (ht : ∀ r, letTemporaryGo value (.ref l) r = pure () := by intro _; rfl) :
    wpAny (model prog w) A (subscriptTail value slice (.ref l) (.ref s.heap.objs.size)) Q E { s with heap := s.heap.push { cls := .type "slice", data := .fields #[.int (a : Int) u, .none, .none] } } := by
  have hlen := sg_len hI
  have hS : StrsAre (vs.drop a) (sg (T.drop a)) := by
    show StrsAre _ ((T.drop a).map _)
    rw [List.map_drop]
    exact strs_drop a hI
  refine kmk_slice F N hl (.int _ _) .none (fun D h' F' N' l1 => h D (vs.drop a) h' F' ?_ l1 hS) hs ht (by rw [List.size_toArray, PySem.sizeLine_eq]; lia)
  have e : slicePick vs.toArray (some (a : Int)) none none = (vs.drop a).toArray := by
    have hb : sliceBounds (some (a : Int)) none none vs.toArray.size = ((a : Int), ((vs.length : Nat) : Int), 1) := by
      unfold sliceBounds
      simp only [Option.getD_none, show ((1 : Int) > 0) = True from by simp, if_true, List.size_toArray]
      rw [if_neg (by lia)]
      refine Prod.ext ?_ rfl
      dsimp only; lia
    rw [kmk_pick_nat _ hb]
    congr 1
    exact List.take_of_length_le (by rw [List.length_drop]; exact Nat.le_refl _)
  rw [← e]
  exact N'
theorem join_sg {vs : List Value} {D : Addr} {T : List Nat} {Q : Value → Shared → Prop} {y : Str} {t : Tok} (hy : y = S []) (hl : s.heap.IsList D vs.toArray) (hv : StrsAre vs (sg T)) (hn : T.length ≤ 100)
    (h : ∀ t' k, Q (.str (S T) t') { s with toks := k }) : wpAny (model prog w) A (call (.builtin "str.join") [.str y t, .ref D]) Q E s := by
  refine join_S (ls := T.map fun c => [c]) ?_ hy hl (by rw [List.map_map]; exact hv) (by rw [List.length_map]; exact hn) (fun l hl => ?_) h
  · clear hv hl hn h
    induction T with
    | nil => rfl
    | cons a r ih => rw [List.map_cons, List.flatten_cons, ih]; rfl
  · obtain ⟨c, _, rfl⟩ := List.mem_map.mp hl
    exact Nat.le_of_ble_eq_true rfl
end
end Mine
namespace Mine
open PySem.Builtin PySem.Builtin.Str PySem.StrLaws PySem.Calls

/-! ### the texts of law 5 -/
def SG5 : List (List Nat) := [[97], [13], [10], [60], [13, 10], [1], [32], [233], [65534], [9], [0], [98]]
def sgn5 (n : Int) : List Nat := SG5.getD (n.fmod 12).toNat []
def nums5 (ns : List Int) : List Int := if ns = [] then [28] else ns.take 14
def raw5 (ns : List Int) : List Nat := ((nums5 ns).map sgn5).flatten
def SS5 : List (List Nat) := [[60, 10], [97, 10, 32], [], [1, 65534, 97, 98], [10], [9, 233, 0, 60, 97]]
theorem sgn5_str (k : Int) : [Str.ofString "a", Str.ofString "\x0d", Str.ofString "\n", Str.ofString "<", Str.ofString "\x0d\n", Str.ofString "\x01", Str.ofString " ", Str.ofString "é", Str.ofString "\ufffe", Str.ofString "\x09", Str.ofString "\x00", Str.ofString "b"].getD (k.fmod 12).toNat Str.empty = S (sgn5 k) := by
  unfold sgn5
  rcases fmod12 k with h | h | h | h | h | h | h | h | h | h | h | h <;> rw [h] <;> decide +kernel
theorem sgn5_len (k : Int) : (sgn5 k).length ≤ 2 := by
  unfold sgn5
  rcases fmod12 k with h | h | h | h | h | h | h | h | h | h | h | h <;> rw [h] <;> decide
theorem sgn5_in (k : Int) : ∀ c ∈ sgn5 k, c ∈ SG5.flatten := by
  unfold sgn5
  rcases fmod12 k with h | h | h | h | h | h | h | h | h | h | h | h <;> rw [h] <;> decide
theorem nums5_len (ns : List Int) : (nums5 ns).length ≤ 14 := by
  unfold nums5
  split
  · decide
  · rw [List.length_take]; lia
theorem nums5_ne (ns : List Int) : nums5 ns ≠ [] := by
  unfold nums5
  split
  · decide
  · rename_i h
    cases ns with
    | nil => exact absurd rfl h
    | cons a r => simp
theorem flat5_len : ∀ l : List Int, ((l.map sgn5).flatten).length ≤ 2 * l.length
  | [] => by simp
  | a :: r => by
    have h1 := sgn5_len a
    have h2 := flat5_len r
    rw [List.map_cons, List.flatten_cons, List.length_append, List.length_cons]
    lia
theorem raw5_len (ns : List Int) : (raw5 ns).length ≤ 28 := by
  have h1 := flat5_len (nums5 ns)
  have h2 := nums5_len ns
  unfold raw5
  lia
theorem raw5_in (ns : List Int) : ∀ c ∈ raw5 ns, c ∈ SG5.flatten := by
  intro c hc
  obtain ⟨l, hl, hc⟩ := List.mem_flatten.mp hc
  obtain ⟨k, _, rfl⟩ := List.mem_map.mp hl
  exact sgn5_in k c hc
def bad5 (c : Nat) : Bool := c == 1 || c == 65534
theorem SG5_all : ∀ c ∈ SG5.flatten, (waits c = true → c = 13) ∧ c < 1114112 ∧ isInv c = bad5 c := by decide
/-- what law 5 knows of a text -/
structure Raw5 (R : List Nat) : Prop where
  len : R.length ≤ 28
  plain : Plain R
  code : ∀ c ∈ R, c < 1114112
  bad : ∀ c ∈ R, isInv c = bad5 c
theorem raw5_raw (ns : List Int) : Raw5 (raw5 ns) where
  len := raw5_len ns
  plain := fun c hc => (SG5_all c (raw5_in ns c hc)).1
  code := fun c hc => (SG5_all c (raw5_in ns c hc)).2.1
  bad := fun c hc => (SG5_all c (raw5_in ns c hc)).2.2
theorem Raw5.part {R R' : List Nat} (h : Raw5 R) (hl : R'.length ≤ R.length) (hm : ∀ c ∈ R', c ∈ R) : Raw5 R' :=
  ⟨Nat.le_trans hl h.len, fun c hc => h.plain c (hm c hc), fun c hc => h.code c (hm c hc), fun c hc => h.bad c (hm c hc)⟩
theorem crlf_bad5 : ∀ l : List Nat, (crlf l).countP bad5 = l.countP bad5 := by
  intro l
  induction l using crlf.induct with
  | case1 => rfl
  | case2 c => rfl
  | case3 c e t h ih =>
    rw [crlf, if_pos h, List.countP_cons, List.countP_cons, List.countP_cons, ih]
    obtain ⟨rfl, rfl⟩ := h
    rfl
  | case4 c e t h ih =>
    rw [crlf, if_neg h, List.countP_cons, ih, ← List.countP_cons]
theorem norm_bad5 (l : List Nat) : (norm l).countP bad5 = l.countP bad5 := by
  rw [← crlf_bad5 l]
  unfold norm crs
  rw [List.countP_map]
  refine List.countP_congr fun c _ => ?_
  show bad5 (if c = 13 then 10 else c) = true ↔ bad5 c = true
  split
  · rename_i h; subst h; decide
  · rfl
theorem Raw5.count {R : List Nat} (h : Raw5 R) : R.countP isInv = (norm R).countP bad5 := by
  rw [norm_bad5]
  exact List.countP_congr fun c hc => by rw [h.bad c hc]

/-! ### the text's spelling, sign by sign -/
def spell1 (L : List (List Nat)) (c : Nat) : List (List Nat) := if c = 10 ∧ L.getLast? = some [13] then L.dropLast ++ [[13, 10]] else L ++ [[c]]
def spell (R : List Nat) : List (List Nat) := R.foldl spell1 []
def WS (L : List (List Nat)) : Prop := (∀ s ∈ L, s = [13, 10] ∨ ∃ c, s = [c]) ∧ ∀ i, ¬ (L[i]? = some [13] ∧ L[i + 1]? = some [10])
/-- a spelled sign, mended -/
def hd5 (s : List Nat) : Nat := if s = [13] ∨ s = [13, 10] then 10 else s.headD 0
theorem WS.nil : WS [] := ⟨fun s h => (by cases h), fun i h => (by cases h.1)⟩
theorem WS.snoc {L : List (List Nat)} {s : List Nat} (h : WS L) (hs : s = [13, 10] ∨ ∃ c, s = [c]) (hc : ¬ (L.getLast? = some [13] ∧ s = [10])) : WS (L ++ [s]) := by
  refine ⟨fun x hx => ?_, fun i hi => ?_⟩
  · rcases List.mem_append.mp hx with hx | hx
    · exact h.1 x hx
    · rw [List.mem_singleton.mp hx]; exact hs
  · rcases Nat.lt_trichotomy (i + 1) L.length with q | q | q
    · rw [List.getElem?_append_left (Nat.lt_of_succ_lt q), List.getElem?_append_left q] at hi
      exact h.2 i hi
    · rw [List.getElem?_append_left (by lia), q, List.getElem?_append_right (Nat.le_refl _), Nat.sub_self] at hi
      refine hc ⟨?_, ?_⟩
      · rw [List.getLast?_eq_getElem?, ← q]; exact hi.1
      · exact Option.some.inj hi.2
    · have : (L ++ [s])[i + 1]? = none := List.getElem?_eq_none (by rw [List.length_append, List.length_singleton]; exact q)
      rw [this] at hi
      cases hi.2
theorem WS.take {L : List (List Nat)} (h : WS L) (k : Nat) : WS (L.take k) := by
  refine ⟨fun s hs => h.1 s (List.mem_of_mem_take hs), fun i hi => h.2 i ?_⟩
  rw [List.getElem?_take, List.getElem?_take] at hi
  obtain ⟨h1, h2⟩ := hi
  split at h1
  · split at h2
    · exact ⟨h1, h2⟩
    · cases h2
  · cases h1
theorem WS.drop {L : List (List Nat)} (h : WS L) (k : Nat) : WS (L.drop k) := by
  refine ⟨fun s hs => h.1 s (List.mem_of_mem_drop hs), fun i hi => h.2 (k + i) ?_⟩
  rw [List.getElem?_drop, List.getElem?_drop] at hi
  exact hi
theorem WS.dropLast {L : List (List Nat)} (h : WS L) : WS L.dropLast := by
  rw [List.dropLast_eq_take]
  exact h.take _
theorem spell1_ok {L : List (List Nat)} {c : Nat} (h : WS L) : WS (spell1 L c) ∧ (spell1 L c).flatten = L.flatten ++ [c] := by
  unfold spell1
  split
  · rename_i q
    obtain ⟨rfl, q⟩ := q
    refine ⟨h.dropLast.snoc (.inl rfl) (fun x => by cases x.2), ?_⟩
    have hne : L ≠ [] := by intro e; rw [e] at q; cases q
    have e : L = L.dropLast ++ [[13]] := by
      rw [List.getLast?_eq_some_getLast hne] at q
      rw [← Option.some.inj q, List.dropLast_concat_getLast]
    conv => rhs; rw [e]
    simp
  · rename_i q
    refine ⟨h.snoc (.inr ⟨c, rfl⟩) (fun x => q ⟨by simpa using x.2, x.1⟩), by simp⟩
theorem spell_take {R : List Nat} {i c : Nat} (h : R[i]? = some c) : spell (R.take (i + 1)) = spell1 (spell (R.take i)) c := by
  unfold spell
  rw [List.take_add_one, h, List.foldl_append]
  rfl
theorem spell_ok (R : List Nat) : ∀ i, i ≤ R.length → WS (spell (R.take i)) ∧ (spell (R.take i)).flatten = R.take i := by
  intro i
  induction i with
  | zero => intro _; exact ⟨WS.nil, rfl⟩
  | succ i ih =>
    intro hi
    have hc : R[i]? = some R[i] := List.getElem?_eq_getElem hi
    obtain ⟨h1, h2⟩ := ih (Nat.le_of_lt hi)
    obtain ⟨g1, g2⟩ := spell1_ok (c := R[i]) h1
    rw [spell_take hc]
    refine ⟨g1, ?_⟩
    rw [g2, h2, List.take_add_one, hc]
    rfl
theorem spell_ws (R : List Nat) : WS (spell R) ∧ (spell R).flatten = R := by
  have h := spell_ok R R.length (Nat.le_refl _)
  rwa [List.take_length] at h
theorem ws_norm : ∀ {L : List (List Nat)}, WS L → norm L.flatten = L.map hd5
  | [], _ => rfl
  | s :: t, h => by
    have ih := ws_norm (h.drop 1)
    rw [List.drop_succ_cons, List.drop_zero] at ih
    rw [List.flatten_cons, List.map_cons, ← ih]
    rcases h.1 s (.head _) with rfl | ⟨c, rfl⟩
    · rw [norm_app [13, 10] _ (fun q => by cases q.1)]
      rfl
    · rw [norm_app [c] _ (fun q => ?_)]
      · show norm [c] ++ _ = _
        have e : norm [c] = [hd5 [c]] := by
          unfold norm crs hd5
          rw [crlf]
          by_cases h13 : c = 13
          · subst h13; rfl
          · simp [h13]
        rw [e]; rfl
      · obtain ⟨q1, q2⟩ := q
        have hc : c = 13 := by simpa using q1
        subst hc
        cases t with
        | nil => cases q2
        | cons x r =>
          refine h.2 0 ⟨rfl, ?_⟩
          rcases h.1 x (.tail _ (.head _)) with rfl | ⟨d, rfl⟩
          · cases q2
          · have : d = 10 := by simpa using q2
            subst this; rfl
theorem spell_norm (R : List Nat) : norm R = (spell R).map hd5 := by
  have h := ws_norm (spell_ws R).1
  rwa [(spell_ws R).2] at h
theorem spell_len (R : List Nat) : (spell R).length = (norm R).length := by rw [spell_norm, List.length_map]
/-- the text before a place, and the text behind it -/
def pre5 (R : List Nat) (k : Nat) : List Nat := ((spell R).take k).flatten
def post5 (R : List Nat) (k : Nat) : List Nat := ((spell R).drop k).flatten
theorem pre_post (R : List Nat) (k : Nat) : pre5 R k ++ post5 R k = R := by
  unfold pre5 post5
  rw [← List.flatten_append, List.take_append_drop, (spell_ws R).2]
theorem norm_pre (R : List Nat) (k : Nat) : norm (pre5 R k) = (norm R).take k := by
  unfold pre5
  rw [ws_norm ((spell_ws R).1.take k), List.map_take, ← spell_norm]
theorem norm_post (R : List Nat) (k : Nat) : norm (post5 R k) = (norm R).drop k := by
  unfold post5
  rw [ws_norm ((spell_ws R).1.drop k), List.map_drop, ← spell_norm]
theorem Raw5.post {R : List Nat} (h : Raw5 R) (k : Nat) : Raw5 (post5 R k) := by
  have e := pre_post R k
  refine h.part ?_ fun c hc => ?_
  · have := congrArg List.length e
    rw [List.length_append] at this
    lia
  · rw [← e]; exact List.mem_append.mpr (.inr hc)
theorem Raw5.pre {R : List Nat} (h : Raw5 R) (k : Nat) : Raw5 (pre5 R k) := by
  have e := pre_post R k
  refine h.part ?_ fun c hc => ?_
  · have := congrArg List.length e
    rw [List.length_append] at this
    lia
  · rw [← e]; exact List.mem_append.mpr (.inl hc)
theorem count5 {R : List Nat} (h : Raw5 R) (k : Nat) : R.countP isInv = ((norm R).take k).countP bad5 + (post5 R k).countP isInv := by
  have e := pre_post R k
  conv => lhs; rw [← e]
  rw [List.countP_append, (h.pre k).count, norm_pre]

/-! ### a place, moved -/
def sh5 (q p : Nat × Nat) : Nat × Nat := (q.1 + p.1 - 1, if p.1 = 1 then p.2 + q.2 else p.2)
theorem adv_one {p : Nat × Nat} {c : Nat} (h : 1 ≤ p.1) : 1 ≤ (adv p c).1 := by
  unfold adv
  split
  · exact Nat.le_add_left _ _
  · exact h
theorem adv_sh5 {q p : Nat × Nat} {c : Nat} (h : 1 ≤ p.1) : adv (sh5 q p) c = sh5 q (adv p c) := by
  obtain ⟨a, b⟩ := q
  obtain ⟨x, y⟩ := p
  unfold adv sh5
  dsimp only at h ⊢
  by_cases hc : c = 10
  · simp only [hc, if_true]
    rw [if_neg (by lia)]
    exact Prod.ext (by dsimp only; lia) rfl
  · simp only [hc, if_false]
    refine Prod.ext rfl ?_
    dsimp only
    split
    · exact Nat.add_right_comm _ _ _
    · rfl
theorem fold_sh5 (q : Nat × Nat) : ∀ (l : List Nat) (p : Nat × Nat), 1 ≤ p.1 → l.foldl adv (sh5 q p) = sh5 q (l.foldl adv p) ∧ 1 ≤ (l.foldl adv p).1
  | [], p, h => ⟨rfl, h⟩
  | c :: r, p, h => by
    rw [List.foldl_cons, List.foldl_cons, adv_sh5 h]
    exact fold_sh5 q r (adv p c) (adv_one h)
theorem place5 {R : List Nat} {k p : Nat} : ((norm R).take (k + p)).foldl adv (1, 0) = sh5 (((norm R).take k).foldl adv (1, 0)) ((((norm R).drop k).take p).foldl adv (1, 0)) ∧ 1 ≤ ((((norm R).drop k).take p).foldl adv (1, 0)).1 := by
  have e : (norm R).take (k + p) = (norm R).take k ++ ((norm R).drop k).take p := List.take_add
  rw [e, List.foldl_append]
  have h := fold_sh5 (((norm R).take k).foldl adv (1, 0)) (((norm R).drop k).take p) (1, 0) (Nat.le_refl _)
  refine ⟨?_, h.2⟩
  rw [← h.1]
  congr 1
  unfold sh5
  exact Prod.ext (by dsimp only; lia) (by dsimp only; simp)

/-! ### the steps of _law_spelled -/
theorem sp_nil {c : Nat} : spell1 [] c = [[c]] := by
  unfold spell1
  rw [if_neg (fun h => by cases h.2)]
  rfl
theorem sp_yes {L : List (List Nat)} {s : List Nat} {c : Nat} (hc : [c] = [10]) (hs : s = [13]) : spell1 (L ++ [s]) c = L ++ [[13, 10]] := by
  have hc : c = 10 := by simpa using hc
  unfold spell1
  rw [if_pos ⟨hc, by rw [hs]; simp⟩, List.dropLast_concat]
theorem sp_no {L : List (List Nat)} {s : List Nat} {c : Nat} (h : ¬ ([c] = [10] ∧ s = [13])) : spell1 (L ++ [s]) c = (L ++ [s]) ++ [[c]] := by
  unfold spell1
  rw [if_neg (fun q => h ⟨by rw [q.1], by simpa using q.2⟩)]
theorem strs_last : ∀ {vs : List Value} {L : List Str} {s : Str}, StrsAre vs (L ++ [s]) → ∃ ws t, vs = ws ++ [.str s t] ∧ StrsAre ws L
  | _, [], _, .cons i t h => by cases h; exact ⟨[], t, rfl, .nil⟩
  | _, _ :: _, _, .cons i t h => by
    obtain ⟨ws, t', rfl, h'⟩ := strs_last h
    exact ⟨_ :: ws, t', rfl, .cons i t h'⟩
theorem list_last {α : Type} (L : List α) : L = [] ∨ ∃ L' s, L = L' ++ [s] := by
  cases L with
  | nil => exact .inl rfl
  | cons a r => exact .inr ⟨_, _, (List.dropLast_concat_getLast (List.cons_ne_nil a r)).symm⟩
section
variable {prog : Program} {w : World} {A : Around} {E : Value → Shared → Prop} {s : Shared} {h₀ : Heap} {L D : Addr} {m : PySem.Str → Option Value}
/-- a list's last item set -/
theorem set_last {rest : List (Addr × Obj)} {ws : List Value} {v0 v : Value} {nn : Nat} {t : Tok} {Q : Unit → Shared → Prop} (F : Fr h₀ L s.heap m) (N : News h₀ L s.heap ((D, W.listOf (ws ++ [v0]).toArray nn) :: rest)) (hne : ∀ p ∈ rest, p.1 ≠ D)
    (h : ∀ h', Fr h₀ L h' m → News h₀ L h' ((D, W.listOf (ws ++ [v]).toArray nn) :: rest) → Q () { s with heap := h' }) : wpAny (model prog w) A (setItem (.ref D) (.int (-1) t) v) Q E s := by
  have z := N (D, W.listOf (ws ++ [v0]).toArray nn) (.head _)
  have hsz : ((ws ++ [v0]).toArray.size : Int) = (ws.length : Int) + 1 := by simp
  refine ki_setBack z.1 (by decide) (by rw [hsz]; lia) (by decide) (h _ (F.change (Heap.SameBut.update ..) z.2.1 z.2.2) (ki_turn (pre := []) _ N (fun p hp => by cases hp) hne ?_ ?_))
  · rw [hsz, show ((-1 : Int) + ((ws.length : Int) + 1)).toNat = ws.length by lia]
    apply Array.toList_inj.mp
    simp
  · rw [if_pos (by simp)]
theorem truthy_snoc {l : Addr} {vs : List Value} {v : Value} {Q : Bool → Shared → Prop} (hl : s.heap.IsList l (vs ++ [v]).toArray) (hfit : vs.length ≤ 1000000) (h : ∀ k, Q true { s with toks := k }) : wpAny (model prog w) A (truthy (.ref l)) Q E s := by
  refine wpAny_truthy_list hl (by simp; lia) ?_
  have e : (!(vs ++ [v]).toArray.isEmpty) = true := by simp
  rw [e]
  exact h _
theorem truthy_nilL {l : Addr} {Q : Bool → Shared → Prop} (hl : s.heap.IsList l ([] : List Value).toArray) (h : ∀ k, Q false { s with toks := k }) : wpAny (model prog w) A (truthy (.ref l)) Q E s :=
  wpAny_truthy_list hl (by decide) (h _)
end
theorem mix_cnt {m' m₀ : Str → Option Value} (s x y : Str) {a b : Int} (hx : ∃ t, m' x = some (.int a t)) (hy : ∃ t, m' y = some (.int b t)) (ho : ∀ z, z ≠ s → z ≠ x → z ≠ y → m' z = m₀ z) :
    ∃ (ta tb : Tok) (u : Option Value), m' = fun z => if z = s then u else if z = x then some (.int a ta) else if z = y then some (.int b tb) else m₀ z := by
  obtain ⟨ta, hx⟩ := hx
  obtain ⟨tb, hy⟩ := hy
  exact ⟨ta, tb, m' s, funext fun z => lit1 rfl fun h1 => lit1 hx fun h2 => lit1 hy fun h3 => ho z h1 h2 h3⟩
end Mine
namespace Mine
open PySem.Builtin PySem.Builtin.Str PySem.StrLaws PySem.Calls

/-! ### two streams: one over the whole text, one over what lies behind a place of it -/
structure Two5 (R R2 : List Nat) (k : Nat) (stA stB : St) (p : Nat) : Prop where
  rA : Raw5 R
  rB : Raw5 R2
  hn : norm R2 = (norm R).drop k
  iA : InvG True R stA (k + p)
  iB : InvG True R2 stB p
theorem Raw5.len3 {R : List Nat} (h : Raw5 R) : R.length ≤ 1000 := le3 h.len rfl
theorem Two5.lt {R R2 : List Nat} {k : Nat} {stA stB : St} {p : Nat} (h : Two5 R R2 k stA stB p) : k + p < (norm R).length ↔ p < (norm R2).length := by
  rw [h.hn, List.length_drop]
  constructor
  · intro h; exact Nat.lt_sub_of_add_lt (by rw [Nat.add_comm]; exact h)
  · intro h; rw [Nat.add_comm]; exact Nat.add_lt_of_lt_sub h
theorem getD_drop5 {l : List Nat} {k p : Nat} : l.getD (k + p) 0 = (l.drop k).getD p 0 := by
  rw [List.getD_eq_getElem?_getD, List.getD_eq_getElem?_getD, List.getElem?_drop]
theorem Two5.char {R R2 : List Nat} {k : Nat} {stA stB : St} {p : Nat} (h : Two5 R R2 k stA stB p) :
    (∃ c stA1 stB1, p < (norm R2).length ∧ c = (norm R2).getD p 0 ∧ stA.charR R = (some c, stA1) ∧ stB.charR R2 = (some c, stB1) ∧ Two5 R R2 k stA1 stB1 (p + 1) ∧ 0 < stA1.off ∧ 0 < stB1.off) ∨
    (∃ stA1 stB1, ¬ p < (norm R2).length ∧ stA.charR R = (none, stA1) ∧ stB.charR R2 = (none, stB1) ∧ Two5 R R2 k stA1 stB1 p) := by
  by_cases hp : p < (norm R2).length
  · left
    obtain ⟨stA1, a1, a2, a3, _⟩ := invG_char h.iA h.rA.plain (h.lt.mpr hp)
    obtain ⟨stB1, b1, b2, b3, _⟩ := invG_char h.iB h.rB.plain hp
    refine ⟨_, stA1, stB1, hp, rfl, ?_, b1, ⟨h.rA, h.rB, h.hn, a2, b2⟩, a3, b3⟩
    rw [a1, h.hn, getD_drop5]
  · right
    obtain ⟨a1, a2⟩ := invG_char_end h.iA h.rA.plain (fun q => hp (h.lt.mp q))
    obtain ⟨b1, b2⟩ := invG_char_end h.iB h.rB.plain hp
    exact ⟨_, _, hp, a1, b1, h.rA, h.rB, h.hn, a2, b2⟩
theorem Two5.back {R R2 : List Nat} {k : Nat} {stA stB : St} {p c : Nat} (h : Two5 R R2 k stA stB (p + 1)) (oA : 0 < stA.off) (oB : 0 < stB.off) (hc : c = (norm R2).getD p 0) :
    Two5 R R2 k (stA.unget c) (stB.unget c) p ∧ (0 < stA.off → stA.chunk.getD (stA.off - 1) 0 = c) ∧ (0 < stB.off → stB.chunk.getD (stB.off - 1) 0 = c) := by
  obtain ⟨a1, a2⟩ := invG_unget (p := k + p) h.iA fun _ => oA
  obtain ⟨b1, b2⟩ := invG_unget h.iB fun _ => oB
  have e : (norm R).getD (k + p) 0 = c := by rw [hc, h.hn, getD_drop5]
  rw [e] at a1 a2
  rw [← hc] at b1 b2
  exact ⟨⟨h.rA, h.rB, h.hn, a1, b1⟩, a2, b2⟩
theorem norm28 {R : List Nat} (h : Raw5 R) : (norm R).length ≤ 28 := Nat.le_trans (norm_len R) h.len
theorem Two5.until {R R2 : List Nat} {k : Nat} {stA stB : St} {p : Nat} (h : Two5 R R2 k stA stB p) (P : Nat → Bool) (b : Bool) :
    ∃ n m l stA1 stB1, Until R P b n stA l stA1 ∧ n ≤ 50 ∧ Until R2 P b m stB l stB1 ∧ m ≤ 50 ∧ l = runL P b ((norm R2).drop p) ∧ Two5 R R2 k stA1 stB1 (p + l.length) := by
  have lA := norm28 h.rA
  have lB := norm28 h.rB
  obtain ⟨q0, j, _, _, _, hpA, _, hoA⟩ := invG_p0 h.iA
  obtain ⟨q1, j1, _, _, _, hpB, _, hoB⟩ := invG_p0 h.iB
  obtain ⟨n, l, stA1, a1, a2, a3, a4, _, _⟩ := invG_until h.rA.plain (Nat.le_trans h.rA.len (by decide)) h.rA.code P b (norm R).length stA (k + p) h.iA (Nat.le_trans (Nat.add_le_add_left hoA _) (Nat.add_le_add_right (Nat.le_add_right _ _) _))
  obtain ⟨m, l2, stB1, b1, b2, b3, b4, _, _⟩ := invG_until h.rB.plain (Nat.le_trans h.rB.len (by decide)) h.rB.code P b (norm R2).length stB p h.iB (Nat.le_trans (Nat.add_le_add_left hoB _) (Nat.add_le_add_right (Nat.le_add_right _ _) _))
  have e : l = l2 := by rw [a3, b3, h.hn, List.drop_drop]
  subst e
  exact ⟨n, m, l, stA1, stB1, a2, Nat.le_trans a1 (Nat.le_trans lA (by decide)), b2, Nat.le_trans b1 (Nat.le_trans lB (by decide)), b3, h.rA, h.rB, h.hn, by rw [← Nat.add_assoc]; exact a4, b4⟩
theorem Two5.pos {R R2 : List Nat} {k : Nat} {stA stB : St} {p : Nat} (h : Two5 R R2 k stA stB p) : ((norm R).take (k + p)).foldl adv (1, 0) = sh5 (((norm R).take k).foldl adv (1, 0)) (((norm R2).take p).foldl adv (1, 0)) ∧ 1 ≤ (((norm R2).take p).foldl adv (1, 0)).1 := by
  rw [h.hn]
  exact place5
theorem Two5.okA {R R2 : List Nat} {k : Nat} {stA stB : St} {p : Nat} (h : Two5 R R2 k stA stB p) : Ok R stA := invG_ok h.iA h.rA.len3
theorem Two5.okB {R R2 : List Nat} {k : Nat} {stA stB : St} {p : Nat} (h : Two5 R R2 k stA stB p) : Ok R2 stB := invG_ok h.iB h.rB.len3
theorem Two5.errs {R R2 : List Nat} {k : Nat} {stA stB : St} {p : Nat} (h : Two5 R R2 k stA stB p) (hp : ¬ p < (norm R2).length) : stA.errs = R.countP isInv ∧ stB.errs = R2.countP isInv :=
  ⟨(invG_end h.iA fun q => hp (h.lt.mp q)).1, (invG_end h.iB hp).1⟩
theorem bad5_any {c : Nat} : ([S [1], S [65534]].any fun x => x == S [c]) = bad5 c := by
  rw [Bool.eq_iff_iff, List.any_eq_true]
  unfold bad5
  simp only [List.mem_cons, List.not_mem_nil, or_false, Bool.or_eq_true, beq_iff_eq]
  constructor
  · rintro ⟨x, rfl | rfl, h⟩
    · exact .inl (by have := S_inj.mp h; simpa using this.symm)
    · exact .inr (by have := S_inj.mp h; simpa using this.symm)
  · rintro (h | h)
    · exact ⟨_, .inl rfl, by rw [h]⟩
    · exact ⟨_, .inr rfl, by rw [h]⟩
theorem rep_yes5 {l : List Nat} {i c : Nat} {ys : List Value} {v : PySem.Str} {t : Tok} (h : l[i]? = some c) (hb : ([S [1], S [65534]].any fun x => x == S [c]) = true) (hS : StrsAre ys (List.replicate ((l.take i).countP bad5) v)) :
    StrsAre (ys ++ [.str v t]) (List.replicate ((l.take (i + 1)).countP bad5) v) := by
  have e : (l.take (i + 1)).countP bad5 = (l.take i).countP bad5 + 1 := by
    rw [List.take_add_one, h, List.countP_append]
    rw [bad5_any] at hb
    simp [hb]
  rw [e, List.replicate_succ']
  exact kct_snoc hS
theorem rep_no5 {l : List Nat} {i c : Nat} {ys : List Value} {v : PySem.Str} (h : l[i]? = some c) (hb : ([S [1], S [65534]].any fun x => x == S [c]) = false) (hS : StrsAre ys (List.replicate ((l.take i).countP bad5) v)) :
    StrsAre ys (List.replicate ((l.take (i + 1)).countP bad5) v) := by
  have e : (l.take (i + 1)).countP bad5 = (l.take i).countP bad5 := by
    rw [List.take_add_one, h, List.countP_append]
    rw [bad5_any] at hb
    simp [hb]
  rw [e]
  exact hS
theorem strs_app : ∀ {vs ws : List Value} {a b : List PySem.Str}, StrsAre vs a → StrsAre ws b → StrsAre (vs ++ ws) (a ++ b)
  | _, _, _, _, .nil, h => h
  | _, _, _, _, .cons i t g, h => .cons i t (strs_app g h)
section
variable {prog : Program} {w : World} {A : Around} {E : Value → Shared → Prop} {s : Shared} {h₀ : Heap} {L l : Addr} {m : PySem.Str → Option Value} {news : List (Addr × Obj)} {value slice : PySem.Expr} {vs : List Value} {T : List Nat} {Q : Value → Shared → Prop}
theorem add_reps {D D' : Addr} {v : PySem.Str} {xs ys : List Value} {n k : Nat} (F : Fr h₀ L s.heap m) (N : News h₀ L s.heap news) (ha : s.heap.IsList D xs.toArray) (hb : s.heap.IsList D' ys.toArray) (hi : StrsAre xs (List.replicate n v)) (hj : StrsAre ys (List.replicate k v)) (hn : n ≤ 1000) (hk : k ≤ 100000)
    (h : ∀ D2 h', Fr h₀ L h' m → News h₀ L h' ((D2, W.listOf (xs ++ ys).toArray 0) :: news) → (∀ p ∈ news, p.1 < D2) → StrsAre (xs ++ ys) (List.replicate (n + k) v) → Q (.ref D2) { s with heap := h' }) :
    wpAny (model prog w) A (binaryOp .Add (.ref D) (.ref D')) Q E s := by
  have l1 := StrsAre.length hi
  have l2 := StrsAre.length hj
  rw [List.length_replicate] at l1 l2
  refine kmk_add_lit F N ha hb (zs := xs ++ ys) rfl (fun D2 h' F' N' hl => h D2 h' F' N' hl ?_) ?_
  · rw [← List.replicate_append_replicate]
    exact strs_app hi hj
  · rw [PySem.sizeLine_eq]
    show xs.length + ys.length ≤ _
    lia
theorem take_sg {b : Nat} {v : Tok} (F : Fr h₀ L s.heap m) (N : News h₀ L s.heap news) (hl : s.heap.IsList l vs.toArray) (hI : StrsAre vs (sg T))
    (hb : b ≤ T.length) (hz : T.length ≤ 10000)
    (h : ∀ D ws h', Fr h₀ L h' m → News h₀ L h' ((D, W.listOf (List.toArray ws) 0) :: news) → (∀ p ∈ news, p.1 < D) → StrsAre ws (sg (T.take b)) → Q (.ref D) { s with heap := h' })
    (hs : subscripted slice false (.ref l) (.ref s.heap.objs.size) = operate [.ref s.heap.objs.size, .ref l] (getItem (.ref l) (.ref s.heap.objs.size)) := by rfl) (ht : ∀ r, letTemporaryGo value (.ref l) r = pure () := by intro _; rfl) :
    wpAny (model prog w) A (subscriptTail value slice (.ref l) (.ref s.heap.objs.size)) Q E { s with heap := s.heap.push { cls := .type "slice", data := .fields #[.none, .int (b : Int) v, .none] } } := by
  have hlen := sg_len hI
  have hS : StrsAre (vs.take b) (sg (T.take b)) := by
    show StrsAre _ ((T.take b).map _)
    rw [List.map_take]
    exact strs_take b hI
  refine kmk_slice F N hl .none (.int _ _) (fun D h' F' N' l1 => h D (vs.take b) h' F' ?_ l1 hS) hs ht (by rw [List.size_toArray, PySem.sizeLine_eq]; lia)
  have e : slicePick vs.toArray none (some (b : Int)) none = (vs.take b).toArray := by
    have hq : sliceBounds none (some (b : Int)) none vs.toArray.size = (((0 : Nat) : Int), (b : Int), 1) := by
      unfold sliceBounds
      simp only [Option.getD_none, show ((1 : Int) > 0) = True from by simp, if_true, List.size_toArray]
      rw [if_neg (by lia)]
      refine Prod.ext rfl (Prod.ext ?_ rfl)
      dsimp only; lia
    rw [kmk_pick_nat _ hq, List.drop_zero]
    rfl
  rw [← e]
  exact N'
theorem from_G {a : Nat} {u : Tok} {ss : List PySem.Str} (F : Fr h₀ L s.heap m) (N : News h₀ L s.heap news) (hl : s.heap.IsList l vs.toArray) (hI : StrsAre vs ss)
    (hab : a ≤ ss.length) (hz : ss.length ≤ 10000)
    (h : ∀ D ws h', Fr h₀ L h' m → News h₀ L h' ((D, W.listOf (List.toArray ws) 0) :: news) → (∀ p ∈ news, p.1 < D) → StrsAre ws (ss.drop a) → Q (.ref D) { s with heap := h' })
    (hs : subscripted slice false (.ref l) (.ref s.heap.objs.size) = operate [.ref s.heap.objs.size, .ref l] (getItem (.ref l) (.ref s.heap.objs.size)) := by rfl) (ht : ∀ r, letTemporaryGo value (.ref l) r = pure () := by intro _; rfl) :
    wpAny (model prog w) A (subscriptTail value slice (.ref l) (.ref s.heap.objs.size)) Q E { s with heap := s.heap.push { cls := .type "slice", data := .fields #[.int (a : Int) u, .none, .none] } } := by
  have hlen := StrsAre.length hI
  refine kmk_slice F N hl (.int _ _) .none (fun D h' F' N' l1 => h D (vs.drop a) h' F' ?_ l1 (strs_drop a hI)) hs ht (by rw [List.size_toArray, PySem.sizeLine_eq]; lia)
  have e : slicePick vs.toArray (some (a : Int)) none none = (vs.drop a).toArray := by
    have hb : sliceBounds (some (a : Int)) none none vs.toArray.size = ((a : Int), ((vs.length : Nat) : Int), 1) := by
      unfold sliceBounds
      simp only [Option.getD_none, show ((1 : Int) > 0) = True from by simp, if_true, List.size_toArray]
      rw [if_neg (by lia)]
      refine Prod.ext ?_ rfl
      dsimp only; lia
    rw [kmk_pick_nat _ hb]
    congr 1
    exact List.take_of_length_le (by rw [List.length_drop]; exact Nat.le_refl _)
  rw [← e]
  exact N'
end
theorem ints_last : ∀ {vs : List Value} {ns : List Int}, IntsAre vs ns → ns ≠ [] → ∃ ws z t, vs = ws ++ [.int z t]
  | _, [], _, h => absurd rfl h
  | _, [_], .cons i t h, _ => by cases h; exact ⟨[], _, _, rfl⟩
  | _, _ :: b :: r, .cons i t h, _ => by
    obtain ⟨ws, z, t', rfl⟩ := ints_last h (List.cons_ne_nil b r)
    exact ⟨_ :: ws, z, t', rfl⟩
theorem nums5_some {ns : List Int} (h : 0 < ns.length) : nums5 ns = ns.take 14 := if_neg (fun e => by rw [e] at h; exact Nat.lt_irrefl _ h)
theorem nums5_none {ns : List Int} (h : ¬ 0 < ns.length) : nums5 ns = [28] := if_pos (List.eq_nil_of_length_eq_zero (Nat.eq_zero_of_not_pos h))
theorem sgn5_map (l : List Int) : (l.map fun n => S (sgn5 n)) = (l.map sgn5).map S := by rw [List.map_map]; rfl
/-- a spelled sign, as the law mends it -/
theorem hd5_yes {s : List Nat} (h : ([S [13], S [13, 10]].any fun x => x == S s) = true) : S [hd5 s] = S [10] := by
  have : s = [13] ∨ s = [13, 10] := by
    rw [List.any_cons, List.any_cons, List.any_nil, Bool.or_false, Bool.or_eq_true, beq_iff_eq, beq_iff_eq, S_inj, S_inj] at h
    exact h.imp Eq.symm Eq.symm
  unfold hd5
  rw [if_pos this]
theorem hd5_no {L : List (List Nat)} {s : List Nat} (hw : WS L) (hm : s ∈ L) (h : ([S [13], S [13, 10]].any fun x => x == S s) = false) : S [hd5 s] = S s := by
  have hn : ¬ (s = [13] ∨ s = [13, 10]) := fun q => by
    have : ([S [13], S [13, 10]].any fun x => x == S s) = true := by
      rw [List.any_cons, List.any_cons, List.any_nil, Bool.or_false, Bool.or_eq_true, beq_iff_eq, beq_iff_eq, S_inj, S_inj]
      exact q.imp Eq.symm Eq.symm
    rw [h] at this
    cases this
  unfold hd5
  rw [if_neg hn]
  rcases hw.1 s hm with rfl | ⟨c, rfl⟩
  · exact absurd (.inr rfl) hn
  · rfl
theorem cut5 {n : Int} {len : Nat} : ∃ k : Nat, n.fmod ((len : Int) + 1) = (k : Int) ∧ k ≤ len := by
  have h1 := Int.fmod_nonneg_of_pos n (show (0 : Int) < (len : Int) + 1 by lia)
  have h2 := Int.fmod_lt_of_pos n (show (0 : Int) < (len : Int) + 1 by lia)
  obtain ⟨k, hk⟩ := Int.eq_ofNat_of_zero_le h1
  refine ⟨k, hk, ?_⟩
  rw [hk] at h2
  lia
end Mine
namespace Mine
open_top hd05 for PySem.Challenge.rw_te0074_05
example : True := by
  w_top off
  trivial
end Mine
namespace Mine
open PySem.Builtin PySem.Builtin.Str PySem.StrLaws PySem.Calls
section
local macro_rules | `(tactic| walk_at $s:str) => `(tactic| k_extra $s)
local macro_rules | `(tactic| k_room) => `(tactic| ktr_room)
local macro_rules | `(tactic| tb_start) => `(tactic| k_extra "tb")
local macro_rules | `(tactic| k_all) => `(tactic| k_extra "all")
local macro_rules | `(tactic| tb_rel) => `(tactic| k_extra "rel")
local macro_rules | `(tactic| k_ne) => `(tactic| k_extra "ne")
local macro_rules | `(tactic| ktr_room) => `(tactic| k_extra "room")
local macro_rules | `(tactic| ktr_units) => `(tactic| k_extra "room")
theorem of_empty : Str.ofString "" = S [] := by decide +kernel
theorem str_empty (k : Tok) : ∃ t, some (Value.str (Str.ofString "") k) = some (Value.str (S []) t) := ⟨k, by rw [of_empty]⟩
/-- ways of an expression that meet -/
def JoinE (g : Heap) (L : Addr) (m : Str → Option Value) (news : List (Addr × Obj)) (s : Shared) (P : Value → Prop) (v : Value) (s' : Shared) : Prop :=
  ∃ h' tk', s' = { s with heap := h', toks := tk' } ∧ P v ∧ Fr g L h' m ∧ News g L h' news
theorem join_e {M : Model} {A : Around} {t : Sem Value} {E : Value → Shared → Prop} {s : Shared} {g : Heap} {L : Addr} {m : Str → Option Value} {news : List (Addr × Obj)} {Q : Value → Shared → Prop} (P : Value → Prop) (_F : Fr g L s.heap m) (_N : News g L s.heap news)
    (h1 : wpAny M A t (JoinE g L m news s P) E s)
    (h2 : ∀ (v : Value) (h' : Heap) (tk' : Nat), P v → Fr g L h' m → News g L h' news → Q v { s with heap := h', toks := tk' }) : wpAny M A t Q E s :=
  wpAny_mono h1 (fun v s' h => by obtain ⟨h', tk', rfl, hP, F, N⟩ := h; exact h2 v h' tk' hP F N) (fun _ _ h => h)
theorem join_e_end {g : Heap} {L : Addr} {m : Str → Option Value} {news : List (Addr × Obj)} {s : Shared} {P : Value → Prop} {v : Value} {h' : Heap} {tk' : Nat} (F : Fr g L h' m) (N : News g L h' news) (hP : P v) : JoinE g L m news s P v { s with heap := h', toks := tk' } :=
  ⟨h', tk', rfl, hP, F, N⟩

/-! ### is a code invalid: the leaves of its chain of tests -/
theorem inv_iff (c : Nat) : isInv c = true ↔ (1 ≤ c ∧ c ≤ 8) ∨ c = 11 ∨ (14 ≤ c ∧ c ≤ 31) ∨ (127 ≤ c ∧ c ≤ 159) ∨ (64976 ≤ c ∧ c ≤ 65007) ∨ (c % 65536 = 65534 ∨ c % 65536 = 65535) ∨ (55296 ≤ c ∧ c ≤ 57343) := by
  simp only [isInv, Bool.or_eq_true, Bool.and_eq_true, decide_eq_true_eq, beq_iff_eq, or_assoc]
theorem inv_t {c : Nat} (h : (1 ≤ c ∧ c ≤ 8) ∨ c = 11 ∨ (14 ≤ c ∧ c ≤ 31) ∨ (127 ≤ c ∧ c ≤ 159) ∨ (64976 ≤ c ∧ c ≤ 65007) ∨ (c % 65536 = 65534 ∨ c % 65536 = 65535) ∨ (55296 ≤ c ∧ c ≤ 57343)) {b : Bool} (hb : b = true) : b = isInv c := hb.trans ((inv_iff c).mpr h).symm
theorem inv_f {c : Nat} (h1 : c < 1 ∨ 8 < c) (h2 : c ≠ 11) (h3 : c < 14 ∨ 31 < c) (h4 : c < 127 ∨ 159 < c) (h5 : c < 64976 ∨ 65007 < c) (h6 : ¬ (c % 65536 = 65534 ∨ c % 65536 = 65535)) (h7 : c < 55296 ∨ 57343 < c) {b : Bool} (hb : b = false) : b = isInv c := by
  rw [hb]
  refine (Bool.eq_false_iff.mpr fun h => ?_).symm
  rcases (inv_iff c).mp h with h | h | h | h | h | h | h <;> first | lia | exact h6 h
theorem inv_mod {c : Nat} {b : Bool} (h : ([65534, 65535].any fun x : Int => x == (c : Int).fmod 65536) = b) : b = true ↔ (c % 65536 = 65534 ∨ c % 65536 = 65535) := by
  rw [← h, Int.fmod_eq_emod_of_nonneg _ (show (0 : Int) ≤ 65536 by decide)]
  simp only [List.any_cons, List.any_nil, Bool.or_false, Bool.or_eq_true, beq_iff_eq]
  lia
theorem cut_if {v : Option Value} {c : Str} {u : Option Value} {f : Str → Option Value} : (fun y => if y = c then v else (fun y => if y = c then u else f y) y) = fun y => if y = c then v else f y := by
  funext y
  by_cases h : y = c
  · rw [if_pos h, if_pos h]
  · rw [if_neg h, if_neg h]; exact if_neg h
theorem eq_yes {prog : Program} {w : World} {A : Around} {E : Value → Shared → Prop} {s : Shared} {l b : List Nat} {t u : Tok} {Q : Value → Shared → Prop} (e : l = b) (h : Q (.bool true) s) : wpAny (model prog w) A (compareOp .Eq (.str (S l) t) (.str (S b) u)) Q E s := eq_S (by rw [decide_eq_true e]; exact h)
theorem ne_tup2_no {prog : Program} {w : World} {A : Around} {E : Value → Shared → Prop} {s : Shared} {h₀ : Heap} {L D D' : Addr} {news : List (Addr × Obj)} {Q : Value → Shared → Prop} {a b a' b' : Int} {t u t' u' : Tok} {n n' : Nat} (N : News h₀ L s.heap news) (ha : (D, ({ cls := .type "tuple", data := .seq #[.int a t, .int b u] n } : Obj)) ∈ news) (hb : (D', ({ cls := .type "tuple", data := .seq #[.int a' t', .int b' u'] n' } : Obj)) ∈ news)
    (hu : A.units + 64 < cLine) (e1 : a = a') (e2 : b = b') (h : Q (.bool false) s) : wpAny (model prog w) A (compareOp .NotEq (.ref D) (.ref D')) Q E s :=
  ne_tup2 N ha hb hu (by rw [decide_eq_false (fun g => g ⟨e1, e2⟩)]; exact h)
theorem eq_tup2_yes {prog : Program} {w : World} {A : Around} {E : Value → Shared → Prop} {s : Shared} {h₀ : Heap} {L D D' : Addr} {news : List (Addr × Obj)} {Q : Value → Shared → Prop} {a b a' b' : Int} {t u t' u' : Tok} {n n' : Nat} (N : News h₀ L s.heap news) (ha : (D, ({ cls := .type "tuple", data := .seq #[.int a t, .int b u] n } : Obj)) ∈ news) (hb : (D', ({ cls := .type "tuple", data := .seq #[.int a' t', .int b' u'] n' } : Obj)) ∈ news)
    (hu : A.units + 64 < cLine) (e1 : a = a') (e2 : b = b') (h : Q (.bool true) s) : wpAny (model prog w) A (compareOp .Eq (.ref D) (.ref D')) Q E s :=
  eq_tup2 N ha hb hu (by rw [decide_eq_true ⟨e1, e2⟩]; exact h)
theorem ne_no {prog : Program} {w : World} {A : Around} {E : Value → Shared → Prop} {s : Shared} {l b : List Nat} {t u : Tok} {Q : Value → Shared → Prop} (e : l = b) (h : Q (.bool false) s) : wpAny (model prog w) A (compareOp .NotEq (.str (S l) t) (.str (S b) u)) Q E s := ne_S (by rw [decide_eq_false (fun g => g e)]; exact h)
theorem ne_rep_no {prog : Program} {w : World} {A : Around} {E : Value → Shared → Prop} {s : Shared} {D D' : Addr} {Q : Value → Shared → Prop} {v : PySem.Str} {xs ys : List Value} {n m : Nat} (ha : s.heap.IsList D xs.toArray) (hb : s.heap.IsList D' ys.toArray)
    (hi : StrsAre xs (List.replicate n v)) (hj : StrsAre ys (List.replicate m v)) (hv : PyData.strOk v = true) (hu : A.units + 64 < cLine) (e : n = m) (h : Q (.bool false) s) :
    wpAny (model prog w) A (compareOp .NotEq (.ref D) (.ref D')) Q E s := ne_rep ha hb hi hj hv hu (by rw [decide_eq_false (fun g => g e)]; exact h)
noncomputable abbrev loose : List Str := looseW hd05.view_39 [Str.ofString "HTMLUnicodeInputStream", Str.ofString "_law_SIGNS"]
def fillT : Prop := ∀ (P : Params), PySem.Challenge.rw_te0074_05.name = PySem.Challenge.rw_te0074_05.name ∧ hd05.heap_39 P = hd05.heap_39 P
def Spec (w : World) (mean : ExcName → Option Value) (mg mb : Str → Option Value) (f : Addr) (vs : List Value) (dd uu : Nat) (news : List (Addr × Obj)) (R : Value → List (Addr × Obj) → Prop) : Prop :=
  ∀ (dp un : Nat) (gd : Option (List Code)) (cn : Str) (cs : Scope) (a : Addr) (ccd : Value) (cl : List (Str × Addr)) (outer : List Env) (A₀ : Around) (base h₀ : Heap) (L : Addr) (m : Str → Option Value) (s : Shared) (Q E : Value → Shared → Prop),
    Below A₀ base outer h₀ → Fr h₀ L s.heap m → (hd05.heap_39 w.params).In h₀ → News h₀ L s.heap news → Top hd05.view_39 loose mean mg mb h₀ → cs.kind = .function →
    dp + dd < recursionLimit → un + uu < cLine →
    (∀ r news' h' tk', R r news' → s.toks ≤ tk' → Fr h₀ L h' m → News h₀ L h' news' → Q r { s with heap := h', toks := tk' }) →
      codeAny (model PySem.Challenge.pw_te0074_05 w) (ktrTop dp un gd cn cs L a ccd cl outer) (.call (.ref f) ⟨vs, []⟩) (fun r s' => match r with | .ok (.ret v) => Q v s' | .ok _ => False | .error e => E e s') s

section
variable {w : World} {mean : ExcName → Option Value} {mg mb : Str → Option Value}
/-- a walk that keeps no count of the tokens gives a contract all the same -/
theorem Spec.of {f : Addr} {vs : List Value} {dd uu : Nat} {news : List (Addr × Obj)} {R : Value → List (Addr × Obj) → Prop}
    (h : ∀ (dp un : Nat) (gd : Option (List Code)) (cn : Str) (cs : Scope) (a : Addr) (ccd : Value) (cl : List (Str × Addr)) (outer : List Env) (A₀ : Around) (base h₀ : Heap) (L : Addr) (m : Str → Option Value) (s : Shared) (Q E : Value → Shared → Prop),
      Below A₀ base outer h₀ → Fr h₀ L s.heap m → (hd05.heap_39 w.params).In h₀ → News h₀ L s.heap news → Top hd05.view_39 loose mean mg mb h₀ → cs.kind = .function →
      dp + dd < recursionLimit → un + uu < cLine →
      (∀ r news' h' tk', R r news' → Fr h₀ L h' m → News h₀ L h' news' → Q r { s with heap := h', toks := tk' }) →
        codeAny (model PySem.Challenge.pw_te0074_05 w) (ktrTop dp un gd cn cs L a ccd cl outer) (.call (.ref f) ⟨vs, []⟩) (fun r s' => match r with | .ok (.ret v) => Q v s' | .ok _ => False | .error e => E e s') s) : Spec w mean mg mb f vs dd uu news R := by
  intro dp un gd cn cs a ccd cl outer A₀ base h₀ L m s Q E B F X N T hk hd hu hret
  refine codeAny_with_toks (Nat.le_refl _) (codeAny_mono (h dp un gd cn cs a ccd cl outer A₀ base h₀ L m s (fun v s' => s.toks ≤ s'.toks → Q v s') (fun e s' => s.toks ≤ s'.toks → E e s') B F X N T hk hd hu fun r news' h' tk' hR F' N' hle => hret r news' h' tk' hR hle F' N') fun r s' hr hle => ?_)
  cases r with
  | error e => exact hr hle
  | ok fl => cases fl <;> first | exact hr hle | exact hr

theorem Spec.useC {f : Addr} {vs : List Value} {dd uu : Nat} {news : List (Addr × Obj)} {R : Value → List (Addr × Obj) → Prop}
    {dp un : Nat} {gd : Option (List Code)} {cn : Str} {cs : Scope} {a : Addr} {ccd : Value} {cl : List (Str × Addr)} {outer : List Env} {A₀ : Around} {base h₀ : Heap} {L : Addr} {m : Str → Option Value} {s : Shared} {Q E : Value → Shared → Prop}
    (H : Spec w mean mg mb f vs dd uu news R) (B : Below A₀ base outer h₀) (F : Fr h₀ L s.heap m) (X : (hd05.heap_39 w.params).In h₀) (N : News h₀ L s.heap news) (T : Top hd05.view_39 loose mean mg mb h₀) (hk : cs.kind = .function)
    (hd : dp + dd < recursionLimit) (hu : un + uu < cLine)
    (k : ∀ r news' h' tk', R r news' → s.toks ≤ tk' → Fr h₀ L h' m → News h₀ L h' news' → Q r { s with heap := h', toks := tk' }) :
    codeAny (model PySem.Challenge.pw_te0074_05 w) (ktrTop dp un gd cn cs L a ccd cl outer) (.call (.ref f) ⟨vs, []⟩) (fun r s' => match r with | .ok (.ret v) => Q v s' | .ok _ => False | .error e => E e s') s :=
  H dp un gd cn cs a ccd cl outer A₀ base h₀ L m s Q E B F X N T hk hd hu k
theorem Spec.use {f : Addr} {vs : List Value} {dd uu : Nat} {news : List (Addr × Obj)} {R : Value → List (Addr × Obj) → Prop}
    {dp un : Nat} {gd : Option (List Code)} {cn : Str} {cs : Scope} {a : Addr} {ccd : Value} {cl : List (Str × Addr)} {outer : List Env} {A₀ : Around} {base h₀ : Heap} {L : Addr} {m : Str → Option Value} {s : Shared} {Q E : Value → Shared → Prop}
    (H : Spec w mean mg mb f vs dd uu news R) (B : Below A₀ base outer h₀) (F : Fr h₀ L s.heap m) (X : (hd05.heap_39 w.params).In h₀) (N : News h₀ L s.heap news) (T : Top hd05.view_39 loose mean mg mb h₀) (hk : cs.kind = .function)
    (hd : dp + dd < recursionLimit) (hu : un + uu < cLine)
    (k : ∀ r news' h' tk', R r news' → s.toks ≤ tk' → Fr h₀ L h' m → News h₀ L h' news' → Q r { s with heap := h', toks := tk' }) :
    wpAny (model PySem.Challenge.pw_te0074_05 w) (ktrTop dp un gd cn cs L a ccd cl outer) (call (.ref f) vs) Q E s :=
  wpAny_call (Spec.useC H B F X N T hk hd hu k)
theorem Spec.useM {f q : Addr} {self : Value} {vs : List Value} {dd uu : Nat} {news news0 : List (Addr × Obj)} {R : Value → List (Addr × Obj) → Prop}
    {dp un : Nat} {gd : Option (List Code)} {cn : Str} {cs : Scope} {a : Addr} {ccd : Value} {cl : List (Str × Addr)} {outer : List Env} {A₀ : Around} {base h₀ : Heap} {L : Addr} {m : Str → Option Value} {s : Shared} {Q E : Value → Shared → Prop}
    (N0 : News h₀ L s.heap news0) (hq : (q, methodObj (.ref f) self) ∈ news0)
    (H : Spec w mean mg mb f (self :: vs) dd uu news R) (B : Below A₀ base outer h₀) (F : Fr h₀ L s.heap m) (X : (hd05.heap_39 w.params).In h₀) (N : News h₀ L s.heap news) (T : Top hd05.view_39 loose mean mg mb h₀) (hk : cs.kind = .function)
    (hd : dp + dd < recursionLimit) (hu : un + uu < cLine)
    (k : ∀ r news' h' tk', R r news' → s.toks ≤ tk' → Fr h₀ L h' m → News h₀ L h' news' → Q r { s with heap := h', toks := tk' }) :
    wpAny (model PySem.Challenge.pw_te0074_05 w) (ktrTop dp un gd cn cs L a ccd cl outer) (call (.ref q) vs) Q E s := by
  refine call_meth N0 hq (codeAny_mono (Spec.useC (E := E) H B F X N T hk hd hu k) fun r s' h => ?_)
  cases r with
  | error e => exact h
  | ok fl => cases fl <;> exact h
end

theorem News.tl {h₀ h : Heap} {L : Addr} {p : Addr × Obj} {l : List (Addr × Obj)} (N : News h₀ L h (p :: l)) : News h₀ L h l := fun q hq => N q (.tail _ hq)

theorem News.dr {h₀ h : Heap} {L : Addr} {p r : Addr × Obj} {l : List (Addr × Obj)} (N : News h₀ L h (p :: r :: l)) : News h₀ L h (p :: l) := fun q hq => by
  rcases List.mem_cons.mp hq with rfl | hq
  · exact N _ (.head _)
  · exact N _ (.tail _ (.tail _ hq))
abbrev tup (vs : List Value) : Obj := { cls := .type "tuple", data := .seq vs.toArray }
abbrev sInv : Str := Str.ofString "invalid-codepoint"
inductive BufIs : Value → Option Nat → Prop
  | none : BufIs .none none
  | some {b : Nat} {t : Tok} : BufIs (.str (S [b]) t) (some b)

theorem mem_mid {α : Type} {p t : α} {a r : List α} : p ∈ a ++ t :: r ↔ p = t ∨ p ∈ a ++ r := by
  rw [List.mem_append, List.mem_append, List.mem_cons, or_left_comm]
/-- the stream at x, over the text R; rest: what else stands -/
inductive LedR (w : World) (R : List Nat) (rest : List (Addr × Obj)) : List Nat → Nat → List Nat → Int → Int → Nat → Int → Int → Option Nat → Int → List (Addr × Obj) → Prop
  | mk {d x q nl dT xT e : Nat} {ck : List Nat} {sz of : Int} {er : Nat} {pl pc : Int} {bf : Option Nat} {pla : Int} {ev : List Value} {ep : Nat} {t0 t1 t2 t3 t4 t5 t6 t7 t8 t9 tB tC u0 u1 u2 u3 u4 u5 u6 u7 : Tok} {bv : Value}
      (hA : d < x ∧ x < q ∧ q < nl ∧ nl < dT ∧ dT < xT ∧ xT < e) (hO : OwnOff rest [e, xT, dT, nl, q, x, d]) (h1 : StrsAre ev (List.replicate er sInv)) (h9 : BufIs bv bf) :
      LedR w R rest [e, xT, dT, nl, q, x, d] x ck sz of er pl pc bf pla ((e, W.listOf ev.toArray ep) :: (xT, instObj 38 dT) :: (dT, dictOf [
          { hash := PyData.keyHash w.params (Str.ofString "text"), key := .str (Str.ofString "text") tB, val := .str (S R) u0 },
          { hash := PyData.keyHash w.params (Str.ofString "place"), key := .str (Str.ofString "place") tC, val := .int pla u1 }] 2) ::
        (nl, W.listOf #[.int 0 u2] 0) :: (q, methodObj (.ref 113) (.ref x)) :: (x, instObj 131 d) :: (d, dictOf [
          { hash := PyData.keyHash w.params (Str.ofString "reportCharacterErrors"), key := .str (Str.ofString "reportCharacterErrors") t0, val := .ref q },
          { hash := PyData.keyHash w.params (Str.ofString "newLines"), key := .str (Str.ofString "newLines") t1, val := .ref nl },
          { hash := PyData.keyHash w.params (Str.ofString "dataStream"), key := .str (Str.ofString "dataStream") t2, val := .ref xT },
          { hash := PyData.keyHash w.params (Str.ofString "chunk"), key := .str (Str.ofString "chunk") t3, val := .str (S ck) u3 },
          { hash := PyData.keyHash w.params (Str.ofString "chunkSize"), key := .str (Str.ofString "chunkSize") t4, val := .int sz u4 },
          { hash := PyData.keyHash w.params (Str.ofString "chunkOffset"), key := .str (Str.ofString "chunkOffset") t5, val := .int of u5 },
          { hash := PyData.keyHash w.params (Str.ofString "errors"), key := .str (Str.ofString "errors") t6, val := .ref e },
          { hash := PyData.keyHash w.params (Str.ofString "prevNumLines"), key := .str (Str.ofString "prevNumLines") t7, val := .int pl u6 },
          { hash := PyData.keyHash w.params (Str.ofString "prevNumCols"), key := .str (Str.ofString "prevNumCols") t8, val := .int pc u7 },
          { hash := PyData.keyHash w.params (Str.ofString "_bufferedCharacter"), key := .str (Str.ofString "_bufferedCharacter") t9, val := bv }] 10) :: rest)
/-- the same, its state in one -/
abbrev LedIs (w : World) (R : List Nat) (rest : List (Addr × Obj)) (ad : List Nat) (x : Nat) (st : St) (news : List (Addr × Obj)) : Prop :=
  LedR w R rest ad x st.chunk (st.chunk.length : Int) (st.off : Int) st.errs (st.pl : Int) (st.pc : Int) st.buf (st.place : Int) news

/-- a place: a tuple of two ints, made anew -/
def PosIs (v : Value) (n news : List (Addr × Obj)) (p : Nat × Nat) : Prop :=
  ∃ (D : Nat) (a b : Int) (t1 t2 : Tok), v = .ref D ∧ (∀ q ∈ news, q.1 < D) ∧ n = (D, tup [.int a t1, .int b t2]) :: news ∧ a = p.1 ∧ b = p.2

section
variable {w : World} {mean : ExcName → Option Value} {mg mb : Str → Option Value} {f : Addr} {vs : List Value} {dd uu : Nat} {news : List (Addr × Obj)} {dp un : Nat} {gd : Option (List Code)} {cn : Str} {cs : Scope} {a : Addr} {ccd : Value} {cl : List (Str × Addr)} {outer : List Env} {A₀ : Around} {base h₀ : Heap} {L : Addr} {m : Str → Option Value} {s : Shared} {Q E : Value → Shared → Prop}
theorem Spec.useV {c : Value} {P : List (Addr × Obj) → Prop}
    (H : Spec w mean mg mb f vs dd uu news (fun v n => v = c ∧ P n)) (B : Below A₀ base outer h₀) (F : Fr h₀ L s.heap m) (X : (hd05.heap_39 w.params).In h₀) (N : News h₀ L s.heap news) (T : Top hd05.view_39 loose mean mg mb h₀) (hk : cs.kind = .function) (hd : dp + dd < recursionLimit) (hu : un + uu < cLine)
    (k : ∀ n' h' tk', P n' → s.toks ≤ tk' → Fr h₀ L h' m → News h₀ L h' n' → Q c { s with heap := h', toks := tk' }) :
    wpAny (model PySem.Challenge.pw_te0074_05 w) (ktrTop dp un gd cn cs L a ccd cl outer) (call (.ref f) vs) Q E s :=
  Spec.use H B F X N T hk hd hu fun _ _ h' tk' hR hle F' N' => by
    obtain ⟨rfl, hP⟩ := hR
    exact k _ h' tk' hP hle F' N'
theorem Spec.useS {c : Str} {P : List (Addr × Obj) → Prop}
    (H : Spec w mean mg mb f vs dd uu news (fun v n => (∃ t, v = .str c t) ∧ P n)) (B : Below A₀ base outer h₀) (F : Fr h₀ L s.heap m) (X : (hd05.heap_39 w.params).In h₀) (N : News h₀ L s.heap news) (T : Top hd05.view_39 loose mean mg mb h₀) (hk : cs.kind = .function) (hd : dp + dd < recursionLimit) (hu : un + uu < cLine)
    (k : ∀ t n' h' tk', P n' → s.toks ≤ tk' → Fr h₀ L h' m → News h₀ L h' n' → Q (.str c t) { s with heap := h', toks := tk' }) :
    wpAny (model PySem.Challenge.pw_te0074_05 w) (ktrTop dp un gd cn cs L a ccd cl outer) (call (.ref f) vs) Q E s :=
  Spec.use H B F X N T hk hd hu fun _ _ h' tk' hR hle F' N' => by
    obtain ⟨⟨t, rfl⟩, hP⟩ := hR
    exact k t _ h' tk' hP hle F' N'
theorem Spec.useK {c : Value} {nw : List (Addr × Obj)}
    (H : Spec w mean mg mb f vs dd uu news (fun v n => v = c ∧ n = nw)) (B : Below A₀ base outer h₀) (F : Fr h₀ L s.heap m) (X : (hd05.heap_39 w.params).In h₀) (N : News h₀ L s.heap news) (T : Top hd05.view_39 loose mean mg mb h₀) (hk : cs.kind = .function) (hd : dp + dd < recursionLimit) (hu : un + uu < cLine)
    (k : ∀ h' tk', s.toks ≤ tk' → Fr h₀ L h' m → News h₀ L h' nw → Q c { s with heap := h', toks := tk' }) :
    wpAny (model PySem.Challenge.pw_te0074_05 w) (ktrTop dp un gd cn cs L a ccd cl outer) (call (.ref f) vs) Q E s :=
  Spec.use H B F X N T hk hd hu fun _ _ h' tk' hR hle F' N' => by
    obtain ⟨rfl, rfl⟩ := hR
    exact k h' tk' hle F' N'
theorem Spec.mono {R R' : Value → List (Addr × Obj) → Prop} (H : Spec w mean mg mb f vs dd uu news R) (h : ∀ v n, R v n → R' v n) : Spec w mean mg mb f vs dd uu news R' :=
  fun dp un gd cn cs a ccd cl outer A₀ base h₀ L m s Q E B F X N T hk hd hu k => H dp un gd cn cs a ccd cl outer A₀ base h₀ L m s Q E B F X N T hk hd hu fun r n' h' tk' hR => k r n' h' tk' (h r n' hR)
end
section
variable {w : World} {mean : ExcName → Option Value} {mg mb : Str → Option Value} {f : Addr} {vs : List Value} {dd uu : Nat} {news : List (Addr × Obj)} {dp un : Nat} {gd : Option (List Code)} {cn : Str} {cs : Scope} {a : Addr} {ccd : Value} {cl : List (Str × Addr)} {outer : List Env} {A₀ : Around} {base h₀ : Heap} {L : Addr} {m : Str → Option Value} {s : Shared} {Q E : Value → Shared → Prop}
theorem Spec.usePos {p p' : Nat × Nat}
    (H : Spec w mean mg mb f vs dd uu news (fun v n => PosIs v n news p')) (e : p' = p) (B : Below A₀ base outer h₀) (F : Fr h₀ L s.heap m) (X : (hd05.heap_39 w.params).In h₀) (N : News h₀ L s.heap news) (T : Top hd05.view_39 loose mean mg mb h₀) (hk : cs.kind = .function) (hd : dp + dd < recursionLimit) (hu : un + uu < cLine)
    (k : ∀ D t1 t2 h' tk', (∀ q ∈ news, q.1 < D) → s.toks ≤ tk' → Fr h₀ L h' m → News h₀ L h' ((D, tup [.int (p.1 : Nat) t1, .int (p.2 : Nat) t2]) :: news) → Q (.ref D) { s with heap := h', toks := tk' }) :
    wpAny (model PySem.Challenge.pw_te0074_05 w) (ktrTop dp un gd cn cs L a ccd cl outer) (call (.ref f) vs) Q E s :=
  by
    subst e
    exact Spec.use H B F X N T hk hd hu fun _ _ h' tk' hR hle F' N' => by
      obtain ⟨D, _, _, t1, t2, rfl, hlt, rfl, rfl, rfl⟩ := hR
      exact k D t1 t2 h' tk' hlt hle F' N'
end
section
variable {w : World} {R : List Nat} {rest : List (Addr × Obj)} {ad : List Nat} {x : Nat} {ck : List Nat} {sz of : Int} {er : Nat} {pl pc : Int} {bf : Option Nat} {pla : Int} {news own : List (Addr × Obj)}
theorem LedR.eq {ck' : List Nat} {sz' of' : Int} {er' : Nat} {pl' pc' : Int} {bf' : Option Nat} {pla' : Int} (h : LedR w R rest ad x ck sz of er pl pc bf pla news) (h1 : ck = ck') (h2 : sz = sz') (h3 : of = of') (h4 : er = er') (h5 : pl = pl') (h6 : pc = pc') (h7 : bf = bf') (h8 : pla = pla') :
    LedR w R rest ad x ck' sz' of' er' pl' pc' bf' pla' news := by
  subst h1 h2 h3 h4 h5 h6 h7 h8; exact h
theorem LedR.addr (h : LedR w R rest ad x ck sz of er pl pc bf pla news) : news.map (·.1) = ad ++ rest.map (·.1) := by
  cases h; rfl
theorem LedR.part (h : LedR w R (rest ++ own) ad x ck sz of er pl pc bf pla news) : ∃ nx, LedR w R rest ad x ck sz of er pl pc bf pla nx ∧ news = nx ++ own := by
  obtain ⟨hA, hO, h1, h9⟩ := h
  exact ⟨_, .mk hA (fun p hp => hO p (List.mem_append.mpr (.inl hp))) h1 h9, rfl⟩
theorem LedR.app (h : LedR w R rest ad x ck sz of er pl pc bf pla news) (ho : OwnOff own ad) : LedR w R (rest ++ own) ad x ck sz of er pl pc bf pla (news ++ own) := by
  obtain ⟨hA, hO, h1, h9⟩ := h
  exact .mk hA (fun p hp => (List.mem_append.mp hp).elim (hO p) (ho p)) h1 h9
theorem LedR.off (h : LedR w R rest ad x ck sz of er pl pc bf pla news) : OwnOff rest ad := by
  cases h; assumption
theorem LedR.mem_rest {p : Addr × Obj} (h : LedR w R rest ad x ck sz of er pl pc bf pla news) (hp : p ∈ rest) : p ∈ news := by
  obtain ⟨n7, _, rfl⟩ := LedR.part (rest := []) h
  exact List.mem_append.mpr (.inr hp)
/-- a new object joins what else stands -/
theorem LedR.push {h₀ g : Heap} {L : Addr} {D : Nat} {o : Obj} (h : LedR w R rest ad x ck sz of er pl pc bf pla news) (hl : ∀ p ∈ news, p.1 < D) (N : News h₀ L g ((D, o) :: news)) :
    ∃ n2, LedR w R ((D, o) :: rest) ad x ck sz of er pl pc bf pla n2 ∧ News h₀ L g n2 ∧ ∀ p ∈ n2, p = (D, o) ∨ p ∈ news := by
  have ha := h.addr
  have hD : ∀ b ∈ ad, b < D := fun b hb => by
    have : b ∈ news.map (·.1) := by rw [ha]; exact List.mem_append.mpr (.inl hb)
    obtain ⟨p, hp, rfl⟩ := List.mem_map.mp this
    exact hl p hp
  have hO := h.off
  obtain ⟨n7, h7, rfl⟩ := LedR.part (rest := []) h
  refine ⟨n7 ++ (D, o) :: rest, LedR.app (rest := []) h7 (fun p hp b hb => ?_), fun p hp => N p (List.mem_cons.mpr (mem_mid.mp hp)), fun p hp => mem_mid.mp hp⟩
  rcases List.mem_cons.mp hp with rfl | hp
  · exact Nat.ne_of_gt (hD b hb)
  · exact hO p hp b hb
theorem LedR.pop {p : Addr × Obj} (h : LedR w R (p :: rest) ad x ck sz of er pl pc bf pla news) : ∃ n2, LedR w R rest ad x ck sz of er pl pc bf pla n2 ∧ ∀ q ∈ n2, q ∈ news := by
  have hO := h.off
  obtain ⟨n7, h7, rfl⟩ := LedR.part (rest := []) h
  exact ⟨n7 ++ rest, LedR.app (rest := []) h7 (fun q hq => hO q (.tail _ hq)), fun q hq => mem_mid.mpr (.inr hq)⟩
theorem News.sub {h₀ g : Heap} {L : Addr} {n n' : List (Addr × Obj)} (N : News h₀ L g n) (h : ∀ q ∈ n', q ∈ n) : News h₀ L g n' := fun q hq => N q (h q hq)
theorem led_end {h₀ h' : Heap} {L : Addr} {m' : Str → Option Value} {J : (Str → Option Value) → List (Addr × Obj) → Prop} {adr : List Addr} {s₁ : Shared} {tk : Nat} (F : Fr h₀ L h' m') (N : News h₀ L h' news) (hL : LedR w R (rest ++ own) ad x ck sz of er pl pc bf pla news)
    (ha : ad ++ rest.map (·.1) = adr) (hj : ∀ nx, LedR w R rest ad x ck sz of er pl pc bf pla nx → J m' nx) : InvEndN h₀ L J own adr s₁ { s₁ with heap := h', toks := tk } := by
  obtain ⟨nx, h1, rfl⟩ := hL.part
  exact InvEndN.intro F N (hj nx h1) (h1.addr.trans ha) (fun p hp => List.mem_append.mpr (.inl hp)) (fun p hp => List.mem_append.mpr (.inr hp))
end
set_option maxRecDepth 100000 in
example : fillT := by
  unfold fillT
  k_fill
  exact fun _ => ⟨rfl, rfl⟩
theorem apart7 {d x q nl dT xT e : Nat} {rest : List (Addr × Obj)} (hA : d < x ∧ x < q ∧ q < nl ∧ nl < dT ∧ dT < xT ∧ xT < e) (hO : OwnOff rest [e, xT, dT, nl, q, x, d]) :
    e ≠ d ∧ xT ≠ d ∧ dT ≠ d ∧ nl ≠ d ∧ q ≠ d ∧ x ≠ d ∧ (∀ p ∈ rest, p.1 ≠ d) := by
  obtain ⟨h2, h3, h4, h5, h6, h7⟩ := hA
  have h3 := Nat.lt_trans h2 h3
  have h4 := Nat.lt_trans h3 h4
  have h5 := Nat.lt_trans h4 h5
  have h6 := Nat.lt_trans h5 h6
  have h7 := Nat.lt_trans h6 h7
  exact ⟨Nat.ne_of_gt h7, Nat.ne_of_gt h6, Nat.ne_of_gt h5, Nat.ne_of_gt h4, Nat.ne_of_gt h3, Nat.ne_of_gt h2, fun p hp => hO p hp d (by simp)⟩
section
variable {w : World} {mean : ExcName → Option Value} {mg mb : Str → Option Value} {R : List Nat} {rest : List (Addr × Obj)} {ad : List Nat} {x : Nat} {ck : List Nat} {sz of : Int} {er : Nat} {pl pc : Int} {bf : Option Nat} {pla : Int} {news : List (Addr × Obj)}
  {A : Around} {E : Value → Shared → Prop} {s : Shared} {h₀ : Heap} {L : Addr} {m : Str → Option Value} {xT : Nat}
theorem g_chunk {Q : Value → Shared → Prop} {ex : Bool} (hL : LedR w R rest ad x ck sz of er pl pc bf pla news) (F : Fr h₀ L s.heap m) (X : (hd05.heap_39 w.params).In h₀) (N : News h₀ L s.heap news) (h : ∀ u, Q (.str (S ck) u) { s with toks := s.toks + 1 }) :
    wpAny (model PySem.Challenge.pw_te0074_05 w) A (getAttr (.ref x) (Str.ofString "chunk") ex) Q E s := by
  obtain ⟨hA, hO, h1, h9⟩ := hL
  walk1
  exact h _
theorem g_size {Q : Value → Shared → Prop} {ex : Bool} (hL : LedR w R rest ad x ck sz of er pl pc bf pla news) (F : Fr h₀ L s.heap m) (X : (hd05.heap_39 w.params).In h₀) (N : News h₀ L s.heap news) (h : ∀ u, Q (.int sz u) { s with toks := s.toks + 1 }) :
    wpAny (model PySem.Challenge.pw_te0074_05 w) A (getAttr (.ref x) (Str.ofString "chunkSize") ex) Q E s := by
  obtain ⟨hA, hO, h1, h9⟩ := hL
  walk1
  exact h _
theorem g_off {Q : Value → Shared → Prop} {ex : Bool} (hL : LedR w R rest ad x ck sz of er pl pc bf pla news) (F : Fr h₀ L s.heap m) (X : (hd05.heap_39 w.params).In h₀) (N : News h₀ L s.heap news) (h : ∀ u, Q (.int of u) { s with toks := s.toks + 1 }) :
    wpAny (model PySem.Challenge.pw_te0074_05 w) A (getAttr (.ref x) (Str.ofString "chunkOffset") ex) Q E s := by
  obtain ⟨hA, hO, h1, h9⟩ := hL
  walk1
  exact h _
theorem g_pl {Q : Value → Shared → Prop} {ex : Bool} (hL : LedR w R rest ad x ck sz of er pl pc bf pla news) (F : Fr h₀ L s.heap m) (X : (hd05.heap_39 w.params).In h₀) (N : News h₀ L s.heap news) (h : ∀ u, Q (.int pl u) { s with toks := s.toks + 1 }) :
    wpAny (model PySem.Challenge.pw_te0074_05 w) A (getAttr (.ref x) (Str.ofString "prevNumLines") ex) Q E s := by
  obtain ⟨hA, hO, h1, h9⟩ := hL
  walk1
  exact h _
theorem g_pc {Q : Value → Shared → Prop} {ex : Bool} (hL : LedR w R rest ad x ck sz of er pl pc bf pla news) (F : Fr h₀ L s.heap m) (X : (hd05.heap_39 w.params).In h₀) (N : News h₀ L s.heap news) (h : ∀ u, Q (.int pc u) { s with toks := s.toks + 1 }) :
    wpAny (model PySem.Challenge.pw_te0074_05 w) A (getAttr (.ref x) (Str.ofString "prevNumCols") ex) Q E s := by
  obtain ⟨hA, hO, h1, h9⟩ := hL
  walk1
  exact h _
theorem g_errors {Q : Value → Shared → Prop} {ex : Bool} (hL : LedR w R rest ad x ck sz of er pl pc bf pla news) (F : Fr h₀ L s.heap m) (X : (hd05.heap_39 w.params).In h₀) (N : News h₀ L s.heap news) (h : ∀ e, ad[0]? = some e → Q (.ref e) { s with toks := s.toks + 1 }) :
    wpAny (model PySem.Challenge.pw_te0074_05 w) A (getAttr (.ref x) (Str.ofString "errors") ex) Q E s := by
  obtain ⟨hA, hO, h1, h9⟩ := hL
  walk1
  exact h _ rfl
theorem g_stream {Q : Value → Shared → Prop} {ex : Bool} (hL : LedR w R rest ad x ck sz of er pl pc bf pla news) (F : Fr h₀ L s.heap m) (X : (hd05.heap_39 w.params).In h₀) (N : News h₀ L s.heap news) (h : ∀ xT, ad[1]? = some xT → Q (.ref xT) { s with toks := s.toks + 1 }) :
    wpAny (model PySem.Challenge.pw_te0074_05 w) A (getAttr (.ref x) (Str.ofString "dataStream") ex) Q E s := by
  obtain ⟨hA, hO, h1, h9⟩ := hL
  walk1
  exact h _ rfl
theorem g_buf {Q : Value → Shared → Prop} {ex : Bool} (hL : LedR w R rest ad x ck sz of er pl pc bf pla news) (F : Fr h₀ L s.heap m) (X : (hd05.heap_39 w.params).In h₀) (N : News h₀ L s.heap news) (h : ∀ v, BufIs v bf → Q v { s with toks := s.toks + 1 }) :
    wpAny (model PySem.Challenge.pw_te0074_05 w) A (getAttr (.ref x) (Str.ofString "_bufferedCharacter") ex) Q E s := by
  obtain ⟨hA, hO, h1, h9⟩ := hL
  cases h9 <;> walk1
  · exact h _ .none
  · exact h _ .some
theorem g_rep {Q : Value → Shared → Prop} {ex : Bool} (hL : LedR w R rest ad x ck sz of er pl pc bf pla news) (F : Fr h₀ L s.heap m) (X : (hd05.heap_39 w.params).In h₀) (N : News h₀ L s.heap news) (h : ∀ q, (q, methodObj (.ref 113) (.ref x)) ∈ news → Q (.ref q) { s with toks := s.toks + 1 }) :
    wpAny (model PySem.Challenge.pw_te0074_05 w) A (getAttr (.ref x) (Str.ofString "reportCharacterErrors") ex) Q E s := by
  obtain ⟨hA, hO, h1, h9⟩ := hL
  walk1
  exact h _ (.tail _ (.tail _ (.tail _ (.tail _ (.head _)))))
theorem g_dflt {Q : Value → Shared → Prop} {ex : Bool} (hL : LedR w R rest ad x ck sz of er pl pc bf pla news) (F : Fr h₀ L s.heap m) (X : (hd05.heap_39 w.params).In h₀) (N : News h₀ L s.heap news) (h : ∀ u, Q (.int 10240 u) { s with toks := s.toks + 1 }) :
    wpAny (model PySem.Challenge.pw_te0074_05 w) A (getAttr (.ref x) (Str.ofString "_defaultChunkSize") ex) Q E s := by
  obtain ⟨hA, hO, h1, h9⟩ := hL
  walk1
  exact h _
theorem g_text {Q : Value → Shared → Prop} {ex : Bool} (hL : LedR w R rest ad x ck sz of er pl pc bf pla news) (hT : ad[1]? = some xT) (F : Fr h₀ L s.heap m) (X : (hd05.heap_39 w.params).In h₀) (N : News h₀ L s.heap news) (h : ∀ u, Q (.str (S R) u) { s with toks := s.toks + 1 }) :
    wpAny (model PySem.Challenge.pw_te0074_05 w) A (getAttr (.ref xT) (Str.ofString "text") ex) Q E s := by
  obtain ⟨hA, hO, h1, h9⟩ := hL
  obtain rfl := Option.some.inj hT
  walk1
  exact h _
theorem g_place {Q : Value → Shared → Prop} {ex : Bool} (hL : LedR w R rest ad x ck sz of er pl pc bf pla news) (hT : ad[1]? = some xT) (F : Fr h₀ L s.heap m) (X : (hd05.heap_39 w.params).In h₀) (N : News h₀ L s.heap news) (h : ∀ u, Q (.int pla u) { s with toks := s.toks + 1 }) :
    wpAny (model PySem.Challenge.pw_te0074_05 w) A (getAttr (.ref xT) (Str.ofString "place") ex) Q E s := by
  obtain ⟨hA, hO, h1, h9⟩ := hL
  obtain rfl := Option.some.inj hT
  walk1
  exact h _
theorem s_chunk {Q : Unit → Shared → Prop} {c : List Nat} {u : Tok} (hL : LedR w R rest ad x ck sz of er pl pc bf pla news) (F : Fr h₀ L s.heap m) (X : (hd05.heap_39 w.params).In h₀) (N : News h₀ L s.heap news) (h : ∀ h' n', Fr h₀ L h' m → News h₀ L h' n' → LedR w R rest ad x c sz of er pl pc bf pla n' → Q () { s with heap := h', toks := s.toks + 2 }) :
    wpAny (model PySem.Challenge.pw_te0074_05 w) A (setAttr (.ref x) (Str.ofString "chunk") (.str (S c) u)) Q E s := by
  obtain ⟨hA, hO, h1, h9⟩ := hL
  obtain ⟨n1, n2, n3, n4, n5, n6, r1⟩ := apart7 hA hO
  walk1
  exact h _ _ (by assumption) (by assumption) (.mk hA hO h1 h9)
theorem s_size {Q : Unit → Shared → Prop} {c : Int} {u : Tok} (hL : LedR w R rest ad x ck sz of er pl pc bf pla news) (F : Fr h₀ L s.heap m) (X : (hd05.heap_39 w.params).In h₀) (N : News h₀ L s.heap news) (h : ∀ h' n', Fr h₀ L h' m → News h₀ L h' n' → LedR w R rest ad x ck c of er pl pc bf pla n' → Q () { s with heap := h', toks := s.toks + 2 }) :
    wpAny (model PySem.Challenge.pw_te0074_05 w) A (setAttr (.ref x) (Str.ofString "chunkSize") (.int c u)) Q E s := by
  obtain ⟨hA, hO, h1, h9⟩ := hL
  obtain ⟨n1, n2, n3, n4, n5, n6, r1⟩ := apart7 hA hO
  walk1
  exact h _ _ (by assumption) (by assumption) (.mk hA hO h1 h9)
theorem s_off {Q : Unit → Shared → Prop} {c : Int} {u : Tok} (hL : LedR w R rest ad x ck sz of er pl pc bf pla news) (F : Fr h₀ L s.heap m) (X : (hd05.heap_39 w.params).In h₀) (N : News h₀ L s.heap news) (h : ∀ h' n', Fr h₀ L h' m → News h₀ L h' n' → LedR w R rest ad x ck sz c er pl pc bf pla n' → Q () { s with heap := h', toks := s.toks + 2 }) :
    wpAny (model PySem.Challenge.pw_te0074_05 w) A (setAttr (.ref x) (Str.ofString "chunkOffset") (.int c u)) Q E s := by
  obtain ⟨hA, hO, h1, h9⟩ := hL
  obtain ⟨n1, n2, n3, n4, n5, n6, r1⟩ := apart7 hA hO
  walk1
  exact h _ _ (by assumption) (by assumption) (.mk hA hO h1 h9)
theorem s_pl {Q : Unit → Shared → Prop} {c : Int} {u : Tok} (hL : LedR w R rest ad x ck sz of er pl pc bf pla news) (F : Fr h₀ L s.heap m) (X : (hd05.heap_39 w.params).In h₀) (N : News h₀ L s.heap news) (h : ∀ h' n', Fr h₀ L h' m → News h₀ L h' n' → LedR w R rest ad x ck sz of er c pc bf pla n' → Q () { s with heap := h', toks := s.toks + 2 }) :
    wpAny (model PySem.Challenge.pw_te0074_05 w) A (setAttr (.ref x) (Str.ofString "prevNumLines") (.int c u)) Q E s := by
  obtain ⟨hA, hO, h1, h9⟩ := hL
  obtain ⟨n1, n2, n3, n4, n5, n6, r1⟩ := apart7 hA hO
  walk1
  exact h _ _ (by assumption) (by assumption) (.mk hA hO h1 h9)
theorem s_pc {Q : Unit → Shared → Prop} {c : Int} {u : Tok} (hL : LedR w R rest ad x ck sz of er pl pc bf pla news) (F : Fr h₀ L s.heap m) (X : (hd05.heap_39 w.params).In h₀) (N : News h₀ L s.heap news) (h : ∀ h' n', Fr h₀ L h' m → News h₀ L h' n' → LedR w R rest ad x ck sz of er pl c bf pla n' → Q () { s with heap := h', toks := s.toks + 2 }) :
    wpAny (model PySem.Challenge.pw_te0074_05 w) A (setAttr (.ref x) (Str.ofString "prevNumCols") (.int c u)) Q E s := by
  obtain ⟨hA, hO, h1, h9⟩ := hL
  obtain ⟨n1, n2, n3, n4, n5, n6, r1⟩ := apart7 hA hO
  walk1
  exact h _ _ (by assumption) (by assumption) (.mk hA hO h1 h9)
theorem s_chunk0 {Q : Unit → Shared → Prop} {u : Tok} (hL : LedR w R rest ad x ck sz of er pl pc bf pla news) (F : Fr h₀ L s.heap m) (X : (hd05.heap_39 w.params).In h₀) (N : News h₀ L s.heap news) (h : ∀ h' n', Fr h₀ L h' m → News h₀ L h' n' → LedR w R rest ad x [] sz of er pl pc bf pla n' → Q () { s with heap := h', toks := s.toks + 2 }) :
    wpAny (model PySem.Challenge.pw_te0074_05 w) A (setAttr (.ref x) (Str.ofString "chunk") (.str (Str.ofString "") u)) Q E s := by
  rw [of_empty]
  exact s_chunk hL F X N h
theorem s_buf {Q : Unit → Shared → Prop} {v : Value} {b : Option Nat} (hv : BufIs v b) (hL : LedR w R rest ad x ck sz of er pl pc bf pla news) (F : Fr h₀ L s.heap m) (X : (hd05.heap_39 w.params).In h₀) (N : News h₀ L s.heap news) (h : ∀ h' n', Fr h₀ L h' m → News h₀ L h' n' → LedR w R rest ad x ck sz of er pl pc b pla n' → Q () { s with heap := h', toks := s.toks + 2 }) :
    wpAny (model PySem.Challenge.pw_te0074_05 w) A (setAttr (.ref x) (Str.ofString "_bufferedCharacter") v) Q E s := by
  obtain ⟨hA, hO, h1, h9⟩ := hL
  obtain ⟨n1, n2, n3, n4, n5, n6, r1⟩ := apart7 hA hO
  walk1
  exact h _ _ (by assumption) (by assumption) (.mk hA hO h1 hv)
theorem s_place {Q : Unit → Shared → Prop} {c : Int} {u : Tok} (hL : LedR w R rest ad x ck sz of er pl pc bf pla news) (hT : ad[1]? = some xT) (F : Fr h₀ L s.heap m) (X : (hd05.heap_39 w.params).In h₀) (N : News h₀ L s.heap news) (h : ∀ h' n', Fr h₀ L h' m → News h₀ L h' n' → LedR w R rest ad x ck sz of er pl pc bf c n' → Q () { s with heap := h', toks := s.toks + 2 }) :
    wpAny (model PySem.Challenge.pw_te0074_05 w) A (setAttr (.ref xT) (Str.ofString "place") (.int c u)) Q E s := by
  obtain ⟨hA, hO, h1, h9⟩ := hL
  obtain rfl := Option.some.inj hT
  walk1
  exact h _ _ (by assumption) (by assumption) (.mk hA hO h1 h9)
theorem m_pos_ {Q : Value × List Value → Shared → Prop} {sem : Sem Bool} (hL : LedR w R rest ad x ck sz of er pl pc bf pla news) (F : Fr h₀ L s.heap m) (X : (hd05.heap_39 w.params).In h₀) (N : News h₀ L s.heap news) (h : Q (.ref 84, [.ref x]) s) :
    wpAny (model PySem.Challenge.pw_te0074_05 w) A (getMethod (.ref x) (Str.ofString "_position") sem) Q E s := by
  obtain ⟨hA, hO, h1, h9⟩ := hL
  walk1
  exact h
theorem m_pos {Q : Value × List Value → Shared → Prop} {sem : Sem Bool} (hL : LedR w R rest ad x ck sz of er pl pc bf pla news) (F : Fr h₀ L s.heap m) (X : (hd05.heap_39 w.params).In h₀) (N : News h₀ L s.heap news) (h : Q (.ref 91, [.ref x]) s) :
    wpAny (model PySem.Challenge.pw_te0074_05 w) A (getMethod (.ref x) (Str.ofString "position") sem) Q E s := by
  obtain ⟨hA, hO, h1, h9⟩ := hL
  walk1
  exact h
theorem m_char {Q : Value × List Value → Shared → Prop} {sem : Sem Bool} (hL : LedR w R rest ad x ck sz of er pl pc bf pla news) (F : Fr h₀ L s.heap m) (X : (hd05.heap_39 w.params).In h₀) (N : News h₀ L s.heap news) (h : Q (.ref 98, [.ref x]) s) :
    wpAny (model PySem.Challenge.pw_te0074_05 w) A (getMethod (.ref x) (Str.ofString "char") sem) Q E s := by
  obtain ⟨hA, hO, h1, h9⟩ := hL
  walk1
  exact h
theorem m_chunk {Q : Value × List Value → Shared → Prop} {sem : Sem Bool} (hL : LedR w R rest ad x ck sz of er pl pc bf pla news) (F : Fr h₀ L s.heap m) (X : (hd05.heap_39 w.params).In h₀) (N : News h₀ L s.heap news) (h : Q (.ref 106, [.ref x]) s) :
    wpAny (model PySem.Challenge.pw_te0074_05 w) A (getMethod (.ref x) (Str.ofString "readChunk") sem) Q E s := by
  obtain ⟨hA, hO, h1, h9⟩ := hL
  walk1
  exact h
theorem m_unget {Q : Value × List Value → Shared → Prop} {sem : Sem Bool} (hL : LedR w R rest ad x ck sz of er pl pc bf pla news) (F : Fr h₀ L s.heap m) (X : (hd05.heap_39 w.params).In h₀) (N : News h₀ L s.heap news) (h : Q (.ref 128, [.ref x]) s) :
    wpAny (model PySem.Challenge.pw_te0074_05 w) A (getMethod (.ref x) (Str.ofString "unget") sem) Q E s := by
  obtain ⟨hA, hO, h1, h9⟩ := hL
  walk1
  exact h
theorem m_until {Q : Value × List Value → Shared → Prop} {sem : Sem Bool} (hL : LedR w R rest ad x ck sz of er pl pc bf pla news) (F : Fr h₀ L s.heap m) (X : (hd05.heap_39 w.params).In h₀) (N : News h₀ L s.heap news) (h : Q (.ref 121, [.ref x]) s) :
    wpAny (model PySem.Challenge.pw_te0074_05 w) A (getMethod (.ref x) (Str.ofString "charsUntil") sem) Q E s := by
  obtain ⟨hA, hO, h1, h9⟩ := hL
  walk1
  exact h
theorem m_read {Q : Value × List Value → Shared → Prop} {sem : Sem Bool} (hL : LedR w R rest ad x ck sz of er pl pc bf pla news) (hT : ad[1]? = some xT) (F : Fr h₀ L s.heap m) (X : (hd05.heap_39 w.params).In h₀) (N : News h₀ L s.heap news) (h : Q (.ref 35, [.ref xT]) s) :
    wpAny (model PySem.Challenge.pw_te0074_05 w) A (getMethod (.ref xT) (Str.ofString "read") sem) Q E s := by
  obtain ⟨hA, hO, h1, h9⟩ := hL
  obtain rfl := Option.some.inj hT
  walk1
  exact h
theorem m_rep {Q : Value × List Value → Shared → Prop} {sem : Sem Bool} (hL : LedR w R rest ad x ck sz of er pl pc bf pla news) (F : Fr h₀ L s.heap m) (X : (hd05.heap_39 w.params).In h₀) (N : News h₀ L s.heap news) (h : ∀ q, (q, methodObj (.ref 113) (.ref x)) ∈ news → Q (.ref q, []) { s with toks := s.toks + 1 }) :
    wpAny (model PySem.Challenge.pw_te0074_05 w) A (getMethod (.ref x) (Str.ofString "reportCharacterErrors") sem) Q E s := by
  obtain ⟨hA, hO, h1, h9⟩ := hL
  walk1
  walk1
  exact h _ (.tail _ (.tail _ (.tail _ (.tail _ (.head _)))))
theorem e_list (hL : LedR w R rest ad x ck sz of er pl pc bf pla news) {e : Nat} (hE : ad[0]? = some e) : ∃ (ev : List Value) (ep : Nat), (e, W.listOf ev.toArray ep) ∈ news ∧ StrsAre ev (List.replicate er sInv) := by
  obtain ⟨hA, hO, h1, h9⟩ := hL
  obtain rfl := Option.some.inj hE
  exact ⟨_, _, .head _, h1⟩
theorem m_append {Q : Value × List Value → Shared → Prop} {sem : Sem Bool} (hL : LedR w R rest ad x ck sz of er pl pc bf pla news) {e : Nat} (hE : ad[0]? = some e) (F : Fr h₀ L s.heap m) (X : (hd05.heap_39 w.params).In h₀) (N : News h₀ L s.heap news) (h : Q (.builtin "list.append", [.ref e]) s) :
    wpAny (model PySem.Challenge.pw_te0074_05 w) A (getMethod (.ref e) (Str.ofString "append") sem) Q E s := by
  obtain ⟨hA, hO, h1, h9⟩ := hL
  obtain rfl := Option.some.inj hE
  walk1
  exact h
theorem app_err {Q : Value → Shared → Prop} {u : Tok} (hL : LedR w R rest ad x ck sz of er pl pc bf pla news) {e : Nat} (hE : ad[0]? = some e) (F : Fr h₀ L s.heap m) (X : (hd05.heap_39 w.params).In h₀) (N : News h₀ L s.heap news) (hs : er ≤ 1000000) (h : ∀ h' n', Fr h₀ L h' m → News h₀ L h' n' → LedR w R rest ad x ck sz of (er + 1) pl pc bf pla n' → Q .none { s with heap := h' }) :
    wpAny (model PySem.Challenge.pw_te0074_05 w) A (call (.builtin "list.append") [.ref e, .str sInv u]) Q E s := by
  obtain ⟨hA, hO, h1, h9⟩ := hL
  obtain rfl := Option.some.inj hE
  have hl := StrsAre.length h1
  rw [List.length_replicate] at hl
  refine append_K F N (.head (fun p hp => ?_)) (fun h' F' N' => ?_) ?_
  · simp only [List.mem_cons] at hp
    obtain ⟨g2, g3, g4, g5, g6, g7⟩ := hA
    have g6 := Nat.lt_trans g6 g7
    have g5 := Nat.lt_trans g5 g6
    have g4 := Nat.lt_trans g4 g5
    have g3 := Nat.lt_trans g3 g4
    have g2 := Nat.lt_trans g2 g3
    rcases hp with h | h | h | h | h | h | h
    all_goals first
      | (subst h; show @Ne Nat _ _; exact Nat.ne_of_lt (by assumption))
      | exact hO p h _ (.head _)
  · rw [List.push_toArray] at N'
    refine h _ _ F' N' (.mk hA hO ?_ h9)
    rw [List.replicate_succ']
    exact kct_snoc h1
  · rw [List.size_toArray, PySem.sizeLine_eq]; lia
end
section
variable {w : World} {mean : ExcName → Option Value} {mg mb : Str → Option Value} {R : List Nat} {rest : List (Addr × Obj)} {ad : List Nat} {x : Nat} {ck : List Nat} {sz of : Int} {er pl pc : Nat} {bf : Option Nat} {pla : Int} {news : List (Addr × Obj)}
set_option maxRecDepth 100000 in
set_option maxHeartbeats 8000000 in
theorem pos_spec (hL : LedR w R rest ad x ck sz of er (pl : Int) (pc : Int) bf pla news) (o : Nat) (t : Tok) (ho : o ≤ ck.length) (hsz : ck.length ≤ 10000) :
    Spec w mean mg mb 84 [.ref x, .int (o : Int) t] 5 60 news (fun v n => PosIs v n news ((ck.take o).foldl adv (pl, pc))) := by
  refine Spec.of ?_
  intro dp un gd cn cs a ccd cl outer A₀ base h₀ L m s Q E B F X N T hk hd hu hret
  k_with_none
  k_with "tb" => (first | assumption | (apply le3; assumption; exact rfl) | lia | (simp only [List.length_append, List.length_cons, List.length_nil, List.length_take, List.length_drop, List.length_dropLast, crs_len, partOf_len] at *; lia) | ((with_reducible refine Nat.le_trans (crlf_len _) ?_); tb_start) | ((with_reducible refine Nat.le_trans (split_len _) ?_); tb_start) | ((with_reducible refine Nat.le_trans (norm_len _) ?_); tb_start))
  k_with "call builtin:str.count" => (refine count4 (by decide +kernel) (by first | assumption | lia) ?_)
  k_with "call builtin:str.rfind" => (refine rfind4 (by decide +kernel) (by first | assumption | lia) ?_)
  k_with "call builtin:str.replace" => ((try dsimp only at *); k_dflt (refine repl_crlf_S (by decide +kernel) (by decide +kernel) (by k_ne) (by k_ne) (by k_ne) (by tb_start) ?_); intro _ _ _)
  k_with "call builtin:str.replace" => ((try dsimp only at *); k_dflt (refine repl_cr_S (by decide +kernel) (by decide +kernel) (by k_ne) (by k_ne) (by k_ne) (by tb_start) ?_); intro _ _ _)
  k_with "call builtin:len" => ((with_reducible show wpAny _ _ (call (Value.builtin "len") [Value.str (S _) _]) _ _ _); refine len_S (by tb_start) ?_)
  k_with "call builtin:ord" => ((with_reducible show wpAny _ _ (call (Value.builtin "ord") [Value.str (S _) _]) _ _ _); refine ord_S ?_)
  k_with "binaryOp Add str str" => ((with_reducible show wpAny _ _ (binaryOp Operator.Add (Value.str (S _) _) (Value.str (S _) _)) _ _ _); refine add_S (by tb_start) ?_; intro _ _)
  k_with "inplaceOp Add str str" => ((with_reducible show wpAny _ _ (inplaceOp Operator.Add (Value.str (S _) _) (Value.str (S _) _)) _ _ _); refine iadd_S (by tb_start) ?_; intro _ _)
  k_with "truthy str" => ((with_reducible show wpAny _ _ (truthy (Value.str (S _) _)) _ _ _); refine truthy_S (by tb_start) ?_)
  k_with "compareOp Eq str str" => ((with_reducible show wpAny _ _ (compareOp CmpOp.Eq (Value.str (S _) _) (Value.str (S _) _)) _ _ _); refine eq_S ?_)
  k_with "compareOp NotEq str str" => ((with_reducible show wpAny _ _ (compareOp CmpOp.NotEq (Value.str (S _) _) (Value.str (S _) _)) _ _ _); refine ne_S ?_)
  k_with "subscriptTail Name Slice str ref" => (k_here; (with_reducible rename Fr _ _ _ _ => F'); (with_reducible rename News _ _ _ _ => N'); k_dflt (refine drop_S (s := ⟨_, _, _, _, _⟩) F' N' (by tb_start) ?_); intro _ _ _ _ _; (try k_sweep))
  k_with "subscriptTail Name Slice str ref" => (k_here; (with_reducible rename Fr _ _ _ _ => F'); (with_reducible rename News _ _ _ _ => N'); k_dflt (refine take_S (s := ⟨_, _, _, _, _⟩) F' N' (by tb_start) ?_); intro _ _ _ _ _; (try k_sweep))
  k_with "subscriptTail Name Slice str ref" => (k_here; (with_reducible rename Fr _ _ _ _ => F'); (with_reducible rename News _ _ _ _ => N'); k_dflt (refine mid_S (s := ⟨_, _, _, _, _⟩) F' N' (by tb_start) ?_); intro _ _ _ _ _; (try k_sweep))
  k_with "subscriptTail Name Slice str ref" => (k_here; (with_reducible rename Fr _ _ _ _ => F'); (with_reducible rename News _ _ _ _ => N'); k_dflt (refine part_S (s := ⟨_, _, _, _, _⟩) F' N' (by tb_start) ?_); intro _ _ _ _ _; (try k_sweep))
  k_with "subscriptTail Name Slice str ref" => (k_here; (with_reducible rename Fr _ _ _ _ => F'); (with_reducible rename News _ _ _ _ => N'); k_dflt (refine init_S (s := ⟨_, _, _, _, _⟩) F' N' (by tb_start) ?_); intro _ _ _ _ _; (try k_sweep))
  k_with "subscriptTail Name UnaryOp str int" => (k_here; (with_reducible show wpAny _ _ (subscriptTail _ _ (Value.str (S _) _) (Value.int _ _)) _ _ _); k_dflt (first | (refine last_S (by first | assumption | (intro hz; simp only [hz, List.length_nil] at *; lia)) (by tb_start) ?_) | (refine item_S (by first | assumption | lia | k_extra "my item") (by tb_start) ?_)))
  k_with "subscriptTail Name Name str int" => (k_here; (with_reducible show wpAny _ _ (subscriptTail _ _ (Value.str (S _) _) (Value.int _ _)) _ _ _); first | (with_reducible refine item_S (by k_dflt (first | assumption | lia | k_extra "my item")) (by k_dflt tb_start) ?_) | k_dflt (refine item_Si (by lia) (by first | lia | k_extra "my item") (by tb_start) ?_))
  k_with "subscriptTail Name Constant str int" => (k_here; (with_reducible show wpAny _ _ (subscriptTail _ _ (Value.str (S _) _) (Value.int _ _)) _ _ _); first | (with_reducible refine item_S (by k_dflt (first | assumption | lia | k_extra "my item")) (by k_dflt tb_start) ?_) | k_dflt (refine item_Si (by lia) (by first | lia | k_extra "my item") (by tb_start) ?_))
  k_with "subscriptTail Name BinOp str int" => (k_here; (with_reducible show wpAny _ _ (subscriptTail _ _ (Value.str (S _) _) (Value.int _ _)) _ _ _); first | (with_reducible refine item_S (by k_dflt (first | assumption | lia | k_extra "my item")) (by k_dflt tb_start) ?_) | k_dflt (refine item_Si (by lia) (by first | lia | k_extra "my item") (by tb_start) ?_))
  k_with "subscriptTail Attribute Name str int" => (k_here; (with_reducible show wpAny _ _ (subscriptTail _ _ (Value.str (S _) _) (Value.int _ _)) _ _ _); first | (with_reducible refine item_S (by k_dflt (first | assumption | lia | k_extra "my item")) (by k_dflt tb_start) ?_) | k_dflt (refine item_Si (by lia) (by first | lia | k_extra "my item") (by tb_start) ?_))
  k_with "subscriptTail Attribute Constant str int" => (k_here; (with_reducible show wpAny _ _ (subscriptTail _ _ (Value.str (S _) _) (Value.int _ _)) _ _ _); first | (with_reducible refine item_S (by k_dflt (first | assumption | lia | k_extra "my item")) (by k_dflt tb_start) ?_) | k_dflt (refine item_Si (by lia) (by first | lia | k_extra "my item") (by tb_start) ?_))
  k_with "subscriptTail Attribute Attribute str int" => (k_here; (with_reducible show wpAny _ _ (subscriptTail _ _ (Value.str (S _) _) (Value.int _ _)) _ _ _); first | (with_reducible refine item_S (by k_dflt (first | assumption | lia | k_extra "my item")) (by k_dflt tb_start) ?_) | k_dflt (refine item_Si (by lia) (by first | lia | k_extra "my item") (by tb_start) ?_))
  k_with "truthy ref" => (k_here; k_dflt (refine' truthy_meth ?N ?q ?_; (case N => k_asm); (case q => k_mem); k_whole))
  k_with "exec For Name Name cons nil" => (k_here; (with_reducible rename Fr _ _ _ _ => lF'); k_dflt (refine' For_invVF lF' ?k1 ?k2 ?_; (case k1 => exact rfl); (case k2 => exact rfl); k_whole))
  k_with "exec For Name Subscript cons nil" => (k_here; (with_reducible rename Fr _ _ _ _ => lF'); k_dflt (refine' For_invVF lF' ?k1 ?k2 ?_; (case k1 => exact rfl); (case k2 => exact rfl); k_whole))
  k_with "all" => (refine List.forall_mem_append.mpr ⟨?a, ?b⟩; (case a => k_all); (case b => k_all))
  k_with "rel" => (simp only [List.size_toArray]; rw [PySem.sizeLine_eq]; lia)
  k_with "call builtin:list.append" => (k_here; (with_reducible show wpAny _ _ (call (Value.builtin _) [Value.ref _, _]) _ _ _); k_dflt (refine' append_K ?k1 ?k2 ?k3 ?_ ?z; (case k1 => k_asm); (case k2 => k_asm); (case k3 => k_upd); (case z => tb_rel); k_whole); intro h' F' N'; (try simp only [List.push_toArray] at N'); (try k_sweep))
  k_with "enter" => (refine' code_def ?k1 ?k2 ?k3 ?k4 ?k5 ?kA ?kF ?kK ?k6 ?k7 ?k8 ?k9 ?kB ?_ ?c2 ?c3 ?c4 ?c5; (case kA => exact rfl); (case kF => exact rfl); (case kK => assumption); (case k1 => k_asm); (case k2 => k_asm); (case k3 => k_asm); (case k4 => k_asm); (case k5 => k_asm); (case k6 => k_is); (case k7 => k_is); (case k8 => ktr_room); (case k9 => first | exact BindsTo.of_eq rfl | exact binds_K (by k_in) rfl (by k_is) rfl rfl rfl); (case c5 => decide); (case kB => exact locs rfl); (case c2 => exact rfl); (case c3 => exact rfl); (case c4 => exact rfl); k_whole; intro g' L' h' FG' F' N' B' X' T'; (try dsimp only); (try k_lift B'); (try k_fold))
  k_with "JoinP" => (dsimp only [JoinP])
  k_with "subscriptTail" => (k_here; (with_reducible show wpAny _ _ (subscriptTail _ _ (Value.str (S _) _) (Value.int _ _)) _ _ _); first | (with_reducible refine item_S (by k_dflt (first | assumption | lia | k_extra "my item")) (by k_dflt tb_start) ?_) | k_dflt (refine item_Si (by lia) (by first | lia | k_extra "my item") (by tb_start) ?_))
  k_with "compareOp Eq str str" => ((with_reducible show wpAny _ _ (compareOp CmpOp.Eq (Value.str (S _) _) (Value.str (Str.ofString _) _)) _ _ _); k_dflt (first | refine eq_lit [13] (by decide +kernel) ?_ | refine eq_lit [10] (by decide +kernel) ?_))
  k_with "compareOp NotEq str str" => ((with_reducible show wpAny _ _ (compareOp CmpOp.NotEq (Value.str (S _) _) (Value.str (Str.ofString _) _)) _ _ _); k_dflt (first | refine ne_lit [13] (by decide +kernel) ?_ | refine ne_lit [10] (by decide +kernel) ?_))
  k_with "inplaceOp Add str str" => ((with_reducible show wpAny _ _ (inplaceOp Operator.Add (Value.str (S _) _) (Value.str (Str.ofString _) _)) _ _ _); k_dflt (refine iadd_lit [10] (by decide +kernel) (by tb_start) ?_); intro _ _)
  k_with "room" => (k_dflt ((first | apply room4 | apply room3 | apply room2 | apply room1 | apply room0 | apply roomz); assumption; exact rfl))
  k_with "getAttr ref" => ((with_reducible show wpAny _ _ (getAttr (Value.ref _) (Str.ofString "chunk") _) _ _ _); k_dflt (refine g_chunk (by assumption) (by k_asm) (by k_asm) ?N ?_; (case N => first | k_asm | exact News.tl (by k_asm) | exact News.tl (News.tl (by k_asm)) | exact News.tl (News.tl (News.tl (by k_asm))))); intro _)
  k_with "getAttr ref" => ((with_reducible show wpAny _ _ (getAttr (Value.ref _) (Str.ofString "chunkSize") _) _ _ _); k_dflt (refine g_size (by assumption) (by k_asm) (by k_asm) ?N ?_; (case N => first | k_asm | exact News.tl (by k_asm) | exact News.tl (News.tl (by k_asm)) | exact News.tl (News.tl (News.tl (by k_asm))))); intro _)
  k_with "getAttr ref" => ((with_reducible show wpAny _ _ (getAttr (Value.ref _) (Str.ofString "chunkOffset") _) _ _ _); k_dflt (refine g_off (by assumption) (by k_asm) (by k_asm) ?N ?_; (case N => first | k_asm | exact News.tl (by k_asm) | exact News.tl (News.tl (by k_asm)) | exact News.tl (News.tl (News.tl (by k_asm))))); intro _)
  k_with "getAttr ref" => ((with_reducible show wpAny _ _ (getAttr (Value.ref _) (Str.ofString "prevNumLines") _) _ _ _); k_dflt (refine g_pl (by assumption) (by k_asm) (by k_asm) ?N ?_; (case N => first | k_asm | exact News.tl (by k_asm) | exact News.tl (News.tl (by k_asm)) | exact News.tl (News.tl (News.tl (by k_asm))))); intro _)
  k_with "getAttr ref" => ((with_reducible show wpAny _ _ (getAttr (Value.ref _) (Str.ofString "prevNumCols") _) _ _ _); k_dflt (refine g_pc (by assumption) (by k_asm) (by k_asm) ?N ?_; (case N => first | k_asm | exact News.tl (by k_asm) | exact News.tl (News.tl (by k_asm)) | exact News.tl (News.tl (News.tl (by k_asm))))); intro _)
  k_with "getAttr ref" => ((with_reducible show wpAny _ _ (getAttr (Value.ref _) (Str.ofString "errors") _) _ _ _); k_dflt (refine g_errors (by assumption) (by k_asm) (by k_asm) ?N ?_; (case N => first | k_asm | exact News.tl (by k_asm) | exact News.tl (News.tl (by k_asm)) | exact News.tl (News.tl (News.tl (by k_asm))))); intro _ hE1)
  k_with "getAttr ref" => ((with_reducible show wpAny _ _ (getAttr (Value.ref _) (Str.ofString "dataStream") _) _ _ _); k_dflt (refine g_stream (by assumption) (by k_asm) (by k_asm) ?N ?_; (case N => first | k_asm | exact News.tl (by k_asm) | exact News.tl (News.tl (by k_asm)) | exact News.tl (News.tl (News.tl (by k_asm))))); intro _ hT1)
  k_with "getAttr ref" => ((with_reducible show wpAny _ _ (getAttr (Value.ref _) (Str.ofString "_bufferedCharacter") _) _ _ _); k_dflt (refine g_buf (by assumption) (by k_asm) (by k_asm) ?N ?_; (case N => first | k_asm | exact News.tl (by k_asm) | exact News.tl (News.tl (by k_asm)) | exact News.tl (News.tl (News.tl (by k_asm))))); intro _ hB1; (try cases hB1))
  k_with "getAttr ref" => ((with_reducible show wpAny _ _ (getAttr (Value.ref _) (Str.ofString "reportCharacterErrors") _) _ _ _); k_dflt (refine g_rep (by assumption) (by k_asm) (by k_asm) ?N ?_; (case N => first | k_asm | exact News.tl (by k_asm) | exact News.tl (News.tl (by k_asm)) | exact News.tl (News.tl (News.tl (by k_asm))))); intro _ hR1)
  k_with "getAttr ref" => ((with_reducible show wpAny _ _ (getAttr (Value.ref _) (Str.ofString "_defaultChunkSize") _) _ _ _); k_dflt (refine g_dflt (by assumption) (by k_asm) (by k_asm) ?N ?_; (case N => first | k_asm | exact News.tl (by k_asm) | exact News.tl (News.tl (by k_asm)) | exact News.tl (News.tl (News.tl (by k_asm))))); intro _)
  k_with "getAttr ref" => ((with_reducible show wpAny _ _ (getAttr (Value.ref _) (Str.ofString "text") _) _ _ _); k_dflt (refine g_text (by assumption) (by assumption) (by k_asm) (by k_asm) ?N ?_; (case N => first | k_asm | exact News.tl (by k_asm) | exact News.tl (News.tl (by k_asm)) | exact News.tl (News.tl (News.tl (by k_asm))))); intro _)
  k_with "getAttr ref" => ((with_reducible show wpAny _ _ (getAttr (Value.ref _) (Str.ofString "place") _) _ _ _); k_dflt (refine g_place (by assumption) (by assumption) (by k_asm) (by k_asm) ?N ?_; (case N => first | k_asm | exact News.tl (by k_asm) | exact News.tl (News.tl (by k_asm)) | exact News.tl (News.tl (News.tl (by k_asm))))); intro _)
  k_with "setAttr ref" => ((with_reducible show wpAny _ _ (setAttr (Value.ref _) (Str.ofString "chunk") _) _ _ _); (with_reducible rename LedR _ _ _ _ _ _ _ _ _ _ _ _ _ _ => hLo); k_dflt (refine s_chunk hLo (by k_asm) (by k_asm) ?N ?_; (case N => first | k_asm | exact News.tl (by k_asm) | exact News.tl (News.tl (by k_asm)) | exact News.tl (News.tl (News.tl (by k_asm))))); intro h' n' F' N' hL'; (try k_sweep); clear hLo)
  k_with "setAttr ref" => ((with_reducible show wpAny _ _ (setAttr (Value.ref _) (Str.ofString "chunk") (Value.str (Str.ofString "") _)) _ _ _); (with_reducible rename LedR _ _ _ _ _ _ _ _ _ _ _ _ _ _ => hLo); k_dflt (refine s_chunk0 hLo (by k_asm) (by k_asm) ?N ?_; (case N => first | k_asm | exact News.tl (by k_asm) | exact News.tl (News.tl (by k_asm)) | exact News.tl (News.tl (News.tl (by k_asm))))); intro h' n' F' N' hL'; (try k_sweep); clear hLo)
  k_with "setAttr ref" => ((with_reducible show wpAny _ _ (setAttr (Value.ref _) (Str.ofString "chunkSize") _) _ _ _); (with_reducible rename LedR _ _ _ _ _ _ _ _ _ _ _ _ _ _ => hLo); k_dflt (refine s_size hLo (by k_asm) (by k_asm) ?N ?_; (case N => first | k_asm | exact News.tl (by k_asm) | exact News.tl (News.tl (by k_asm)) | exact News.tl (News.tl (News.tl (by k_asm))))); intro h' n' F' N' hL'; (try k_sweep); clear hLo)
  k_with "setAttr ref" => ((with_reducible show wpAny _ _ (setAttr (Value.ref _) (Str.ofString "chunkOffset") _) _ _ _); (with_reducible rename LedR _ _ _ _ _ _ _ _ _ _ _ _ _ _ => hLo); k_dflt (refine s_off hLo (by k_asm) (by k_asm) ?N ?_; (case N => first | k_asm | exact News.tl (by k_asm) | exact News.tl (News.tl (by k_asm)) | exact News.tl (News.tl (News.tl (by k_asm))))); intro h' n' F' N' hL'; (try k_sweep); clear hLo)
  k_with "setAttr ref" => ((with_reducible show wpAny _ _ (setAttr (Value.ref _) (Str.ofString "prevNumLines") _) _ _ _); (with_reducible rename LedR _ _ _ _ _ _ _ _ _ _ _ _ _ _ => hLo); k_dflt (refine s_pl hLo (by k_asm) (by k_asm) ?N ?_; (case N => first | k_asm | exact News.tl (by k_asm) | exact News.tl (News.tl (by k_asm)) | exact News.tl (News.tl (News.tl (by k_asm))))); intro h' n' F' N' hL'; (try k_sweep); clear hLo)
  k_with "setAttr ref" => ((with_reducible show wpAny _ _ (setAttr (Value.ref _) (Str.ofString "prevNumCols") _) _ _ _); (with_reducible rename LedR _ _ _ _ _ _ _ _ _ _ _ _ _ _ => hLo); k_dflt (refine s_pc hLo (by k_asm) (by k_asm) ?N ?_; (case N => first | k_asm | exact News.tl (by k_asm) | exact News.tl (News.tl (by k_asm)) | exact News.tl (News.tl (News.tl (by k_asm))))); intro h' n' F' N' hL'; (try k_sweep); clear hLo)
  k_with "setAttr ref" => ((with_reducible show wpAny _ _ (setAttr (Value.ref _) (Str.ofString "_bufferedCharacter") _) _ _ _); (with_reducible rename LedR _ _ _ _ _ _ _ _ _ _ _ _ _ _ => hLo); k_dflt (refine s_buf (by first | exact BufIs.none | exact BufIs.some | assumption) hLo (by k_asm) (by k_asm) ?N ?_; (case N => first | k_asm | exact News.tl (by k_asm) | exact News.tl (News.tl (by k_asm)) | exact News.tl (News.tl (News.tl (by k_asm))))); intro h' n' F' N' hL'; (try k_sweep); clear hLo)
  k_with "setAttr ref" => ((with_reducible show wpAny _ _ (setAttr (Value.ref _) (Str.ofString "place") _) _ _ _); (with_reducible rename LedR _ _ _ _ _ _ _ _ _ _ _ _ _ _ => hLo); k_dflt (refine s_place hLo (by assumption) (by k_asm) (by k_asm) ?N ?_; (case N => first | k_asm | exact News.tl (by k_asm) | exact News.tl (News.tl (by k_asm)) | exact News.tl (News.tl (News.tl (by k_asm))))); intro h' n' F' N' hL'; (try k_sweep); clear hLo)
  k_with "getMethod ref" => ((with_reducible show wpAny _ _ (getMethod (Value.ref _) (Str.ofString "_position") _) _ _ _); k_dflt (refine m_pos_ (by assumption) (by k_asm) (by k_asm) ?N ?_; (case N => first | k_asm | exact News.tl (by k_asm) | exact News.tl (News.tl (by k_asm)) | exact News.tl (News.tl (News.tl (by k_asm))))))
  k_with "getMethod ref" => ((with_reducible show wpAny _ _ (getMethod (Value.ref _) (Str.ofString "position") _) _ _ _); k_dflt (refine m_pos (by assumption) (by k_asm) (by k_asm) ?N ?_; (case N => first | k_asm | exact News.tl (by k_asm) | exact News.tl (News.tl (by k_asm)) | exact News.tl (News.tl (News.tl (by k_asm))))))
  k_with "getMethod ref" => ((with_reducible show wpAny _ _ (getMethod (Value.ref _) (Str.ofString "char") _) _ _ _); k_dflt (refine m_char (by assumption) (by k_asm) (by k_asm) ?N ?_; (case N => first | k_asm | exact News.tl (by k_asm) | exact News.tl (News.tl (by k_asm)) | exact News.tl (News.tl (News.tl (by k_asm))))))
  k_with "getMethod ref" => ((with_reducible show wpAny _ _ (getMethod (Value.ref _) (Str.ofString "readChunk") _) _ _ _); k_dflt (refine m_chunk (by assumption) (by k_asm) (by k_asm) ?N ?_; (case N => first | k_asm | exact News.tl (by k_asm) | exact News.tl (News.tl (by k_asm)) | exact News.tl (News.tl (News.tl (by k_asm))))))
  k_with "getMethod ref" => ((with_reducible show wpAny _ _ (getMethod (Value.ref _) (Str.ofString "unget") _) _ _ _); k_dflt (refine m_unget (by assumption) (by k_asm) (by k_asm) ?N ?_; (case N => first | k_asm | exact News.tl (by k_asm) | exact News.tl (News.tl (by k_asm)) | exact News.tl (News.tl (News.tl (by k_asm))))))
  k_with "getMethod ref" => ((with_reducible show wpAny _ _ (getMethod (Value.ref _) (Str.ofString "charsUntil") _) _ _ _); k_dflt (refine m_until (by assumption) (by k_asm) (by k_asm) ?N ?_; (case N => first | k_asm | exact News.tl (by k_asm) | exact News.tl (News.tl (by k_asm)) | exact News.tl (News.tl (News.tl (by k_asm))))))
  k_with "getMethod ref" => ((with_reducible show wpAny _ _ (getMethod (Value.ref _) (Str.ofString "read") _) _ _ _); k_dflt (refine m_read (by assumption) (by assumption) (by k_asm) (by k_asm) ?N ?_; (case N => first | k_asm | exact News.tl (by k_asm) | exact News.tl (News.tl (by k_asm)) | exact News.tl (News.tl (News.tl (by k_asm))))))
  k_with "getMethod ref" => ((with_reducible show wpAny _ _ (getMethod (Value.ref _) (Str.ofString "reportCharacterErrors") _) _ _ _); k_dflt (refine m_rep (by assumption) (by k_asm) (by k_asm) ?N ?_; (case N => first | k_asm | exact News.tl (by k_asm) | exact News.tl (News.tl (by k_asm)) | exact News.tl (News.tl (News.tl (by k_asm))))); intro _ hR1)
  k_with "getMethod ref" => ((with_reducible show wpAny _ _ (getMethod (Value.ref _) (Str.ofString "append") _) _ _ _); k_dflt (refine m_append (by assumption) (by assumption) (by k_asm) (by k_asm) ?N ?_; (case N => first | k_asm | exact News.tl (by k_asm) | exact News.tl (News.tl (by k_asm)) | exact News.tl (News.tl (News.tl (by k_asm))))))
  k_with "call builtin:list.append" => ((with_reducible rename LedR _ _ _ _ _ _ _ _ _ _ _ _ _ _ => hLo); k_dflt (refine app_err hLo (by assumption) (by k_asm) (by k_asm) ?N (by lia) ?_; (case N => first | k_asm | exact News.tl (by k_asm) | exact News.tl (News.tl (by k_asm)) | exact News.tl (News.tl (News.tl (by k_asm))))); intro h' n' F' N' hL'; (try k_sweep); clear hLo)
  k_dflt (k_extra "enter")
  (rename Fr _ _ _ _ => F1)
  (with_unfolding_all change Fr _ _ _ (fun y => List.lookup y [(Str.ofString "offset", Value.int (o : Int) t), (Str.ofString "self", Value.ref x)]) at F1)
  k_steps
  all_goals (
    refine hret _ _ _ _ ⟨_, _, _, _, _, rfl, ?_, rfl, ?_, ?_⟩ (by assumption) (by assumption)
    · first | exact kst_ltOf (by assumption) | assumption
    · have h1 := lines_of ck o (pl, pc) ho
      lia
    · have h1 := rf_none (l := ck) (pl, pc) ho
      have h2 := rf_some (l := ck) (pl, pc) ho
      simp only [beq_iff_eq, decide_eq_true_eq, decide_eq_false_iff_not, beq_eq_false_iff_ne] at *
      lia)
end
section
variable {w : World} {mean : ExcName → Option Value} {mg mb : Str → Option Value} {R : List Nat} {rest : List (Addr × Obj)} {ad : List Nat} {x : Nat} {ck : List Nat} {sz of : Int} {er pl pc : Nat} {bf : Option Nat} {pla : Int} {news : List (Addr × Obj)}
set_option maxRecDepth 100000 in
set_option maxHeartbeats 8000000 in
theorem position_spec (o : Nat) (hL : LedR w R rest ad x ck sz (o : Int) er (pl : Int) (pc : Int) bf pla news) (ho : o ≤ ck.length) (hsz : ck.length ≤ 10000) :
    Spec w mean mg mb 91 [.ref x] 15 90 news (fun v n => PosIs v n news (((ck.take o).foldl adv (pl, pc)).1 + 1, ((ck.take o).foldl adv (pl, pc)).2)) := by
  refine Spec.of ?_
  intro dp un gd cn cs a ccd cl outer A₀ base h₀ L m s Q E B F X N T hk hd hu hret
  k_with_none
  k_with "tb" => (first | assumption | (apply le3; assumption; exact rfl) | lia | (simp only [List.length_append, List.length_cons, List.length_nil, List.length_take, List.length_drop, List.length_dropLast, crs_len, partOf_len] at *; lia) | ((with_reducible refine Nat.le_trans (crlf_len _) ?_); tb_start) | ((with_reducible refine Nat.le_trans (split_len _) ?_); tb_start) | ((with_reducible refine Nat.le_trans (norm_len _) ?_); tb_start))
  k_with "call builtin:str.count" => (refine count4 (by decide +kernel) (by first | assumption | lia) ?_)
  k_with "call builtin:str.rfind" => (refine rfind4 (by decide +kernel) (by first | assumption | lia) ?_)
  k_with "call builtin:str.replace" => ((try dsimp only at *); k_dflt (refine repl_crlf_S (by decide +kernel) (by decide +kernel) (by k_ne) (by k_ne) (by k_ne) (by tb_start) ?_); intro _ _ _)
  k_with "call builtin:str.replace" => ((try dsimp only at *); k_dflt (refine repl_cr_S (by decide +kernel) (by decide +kernel) (by k_ne) (by k_ne) (by k_ne) (by tb_start) ?_); intro _ _ _)
  k_with "call builtin:len" => ((with_reducible show wpAny _ _ (call (Value.builtin "len") [Value.str (S _) _]) _ _ _); refine len_S (by tb_start) ?_)
  k_with "call builtin:ord" => ((with_reducible show wpAny _ _ (call (Value.builtin "ord") [Value.str (S _) _]) _ _ _); refine ord_S ?_)
  k_with "binaryOp Add str str" => ((with_reducible show wpAny _ _ (binaryOp Operator.Add (Value.str (S _) _) (Value.str (S _) _)) _ _ _); refine add_S (by tb_start) ?_; intro _ _)
  k_with "inplaceOp Add str str" => ((with_reducible show wpAny _ _ (inplaceOp Operator.Add (Value.str (S _) _) (Value.str (S _) _)) _ _ _); refine iadd_S (by tb_start) ?_; intro _ _)
  k_with "truthy str" => ((with_reducible show wpAny _ _ (truthy (Value.str (S _) _)) _ _ _); refine truthy_S (by tb_start) ?_)
  k_with "compareOp Eq str str" => ((with_reducible show wpAny _ _ (compareOp CmpOp.Eq (Value.str (S _) _) (Value.str (S _) _)) _ _ _); refine eq_S ?_)
  k_with "compareOp NotEq str str" => ((with_reducible show wpAny _ _ (compareOp CmpOp.NotEq (Value.str (S _) _) (Value.str (S _) _)) _ _ _); refine ne_S ?_)
  k_with "subscriptTail Name Slice str ref" => (k_here; (with_reducible rename Fr _ _ _ _ => F'); (with_reducible rename News _ _ _ _ => N'); k_dflt (refine drop_S (s := ⟨_, _, _, _, _⟩) F' N' (by tb_start) ?_); intro _ _ _ _ _; (try k_sweep))
  k_with "subscriptTail Name Slice str ref" => (k_here; (with_reducible rename Fr _ _ _ _ => F'); (with_reducible rename News _ _ _ _ => N'); k_dflt (refine take_S (s := ⟨_, _, _, _, _⟩) F' N' (by tb_start) ?_); intro _ _ _ _ _; (try k_sweep))
  k_with "subscriptTail Name Slice str ref" => (k_here; (with_reducible rename Fr _ _ _ _ => F'); (with_reducible rename News _ _ _ _ => N'); k_dflt (refine mid_S (s := ⟨_, _, _, _, _⟩) F' N' (by tb_start) ?_); intro _ _ _ _ _; (try k_sweep))
  k_with "subscriptTail Name Slice str ref" => (k_here; (with_reducible rename Fr _ _ _ _ => F'); (with_reducible rename News _ _ _ _ => N'); k_dflt (refine part_S (s := ⟨_, _, _, _, _⟩) F' N' (by tb_start) ?_); intro _ _ _ _ _; (try k_sweep))
  k_with "subscriptTail Name Slice str ref" => (k_here; (with_reducible rename Fr _ _ _ _ => F'); (with_reducible rename News _ _ _ _ => N'); k_dflt (refine init_S (s := ⟨_, _, _, _, _⟩) F' N' (by tb_start) ?_); intro _ _ _ _ _; (try k_sweep))
  k_with "subscriptTail Name UnaryOp str int" => (k_here; (with_reducible show wpAny _ _ (subscriptTail _ _ (Value.str (S _) _) (Value.int _ _)) _ _ _); k_dflt (first | (refine last_S (by first | assumption | (intro hz; simp only [hz, List.length_nil] at *; lia)) (by tb_start) ?_) | (refine item_S (by first | assumption | lia | k_extra "my item") (by tb_start) ?_)))
  k_with "subscriptTail Name Name str int" => (k_here; (with_reducible show wpAny _ _ (subscriptTail _ _ (Value.str (S _) _) (Value.int _ _)) _ _ _); first | (with_reducible refine item_S (by k_dflt (first | assumption | lia | k_extra "my item")) (by k_dflt tb_start) ?_) | k_dflt (refine item_Si (by lia) (by first | lia | k_extra "my item") (by tb_start) ?_))
  k_with "subscriptTail Name Constant str int" => (k_here; (with_reducible show wpAny _ _ (subscriptTail _ _ (Value.str (S _) _) (Value.int _ _)) _ _ _); first | (with_reducible refine item_S (by k_dflt (first | assumption | lia | k_extra "my item")) (by k_dflt tb_start) ?_) | k_dflt (refine item_Si (by lia) (by first | lia | k_extra "my item") (by tb_start) ?_))
  k_with "subscriptTail Name BinOp str int" => (k_here; (with_reducible show wpAny _ _ (subscriptTail _ _ (Value.str (S _) _) (Value.int _ _)) _ _ _); first | (with_reducible refine item_S (by k_dflt (first | assumption | lia | k_extra "my item")) (by k_dflt tb_start) ?_) | k_dflt (refine item_Si (by lia) (by first | lia | k_extra "my item") (by tb_start) ?_))
  k_with "subscriptTail Attribute Name str int" => (k_here; (with_reducible show wpAny _ _ (subscriptTail _ _ (Value.str (S _) _) (Value.int _ _)) _ _ _); first | (with_reducible refine item_S (by k_dflt (first | assumption | lia | k_extra "my item")) (by k_dflt tb_start) ?_) | k_dflt (refine item_Si (by lia) (by first | lia | k_extra "my item") (by tb_start) ?_))
  k_with "subscriptTail Attribute Constant str int" => (k_here; (with_reducible show wpAny _ _ (subscriptTail _ _ (Value.str (S _) _) (Value.int _ _)) _ _ _); first | (with_reducible refine item_S (by k_dflt (first | assumption | lia | k_extra "my item")) (by k_dflt tb_start) ?_) | k_dflt (refine item_Si (by lia) (by first | lia | k_extra "my item") (by tb_start) ?_))
  k_with "subscriptTail Attribute Attribute str int" => (k_here; (with_reducible show wpAny _ _ (subscriptTail _ _ (Value.str (S _) _) (Value.int _ _)) _ _ _); first | (with_reducible refine item_S (by k_dflt (first | assumption | lia | k_extra "my item")) (by k_dflt tb_start) ?_) | k_dflt (refine item_Si (by lia) (by first | lia | k_extra "my item") (by tb_start) ?_))
  k_with "truthy ref" => (k_here; k_dflt (refine' truthy_meth ?N ?q ?_; (case N => k_asm); (case q => k_mem); k_whole))
  k_with "exec For Name Name cons nil" => (k_here; (with_reducible rename Fr _ _ _ _ => lF'); k_dflt (refine' For_invVF lF' ?k1 ?k2 ?_; (case k1 => exact rfl); (case k2 => exact rfl); k_whole))
  k_with "exec For Name Subscript cons nil" => (k_here; (with_reducible rename Fr _ _ _ _ => lF'); k_dflt (refine' For_invVF lF' ?k1 ?k2 ?_; (case k1 => exact rfl); (case k2 => exact rfl); k_whole))
  k_with "all" => (refine List.forall_mem_append.mpr ⟨?a, ?b⟩; (case a => k_all); (case b => k_all))
  k_with "rel" => (simp only [List.size_toArray]; rw [PySem.sizeLine_eq]; lia)
  k_with "call builtin:list.append" => (k_here; (with_reducible show wpAny _ _ (call (Value.builtin _) [Value.ref _, _]) _ _ _); k_dflt (refine' append_K ?k1 ?k2 ?k3 ?_ ?z; (case k1 => k_asm); (case k2 => k_asm); (case k3 => k_upd); (case z => tb_rel); k_whole); intro h' F' N'; (try simp only [List.push_toArray] at N'); (try k_sweep))
  k_with "enter" => (refine' code_def ?k1 ?k2 ?k3 ?k4 ?k5 ?kA ?kF ?kK ?k6 ?k7 ?k8 ?k9 ?kB ?_ ?c2 ?c3 ?c4 ?c5; (case kA => exact rfl); (case kF => exact rfl); (case kK => assumption); (case k1 => k_asm); (case k2 => k_asm); (case k3 => k_asm); (case k4 => k_asm); (case k5 => k_asm); (case k6 => k_is); (case k7 => k_is); (case k8 => ktr_room); (case k9 => first | exact BindsTo.of_eq rfl | exact binds_K (by k_in) rfl (by k_is) rfl rfl rfl); (case c5 => decide); (case kB => exact locs rfl); (case c2 => exact rfl); (case c3 => exact rfl); (case c4 => exact rfl); k_whole; intro g' L' h' FG' F' N' B' X' T'; (try dsimp only); (try k_lift B'); (try k_fold))
  k_with "JoinP" => (dsimp only [JoinP])
  k_with "subscriptTail" => (k_here; (with_reducible show wpAny _ _ (subscriptTail _ _ (Value.str (S _) _) (Value.int _ _)) _ _ _); first | (with_reducible refine item_S (by k_dflt (first | assumption | lia | k_extra "my item")) (by k_dflt tb_start) ?_) | k_dflt (refine item_Si (by lia) (by first | lia | k_extra "my item") (by tb_start) ?_))
  k_with "compareOp Eq str str" => ((with_reducible show wpAny _ _ (compareOp CmpOp.Eq (Value.str (S _) _) (Value.str (Str.ofString _) _)) _ _ _); k_dflt (first | refine eq_lit [13] (by decide +kernel) ?_ | refine eq_lit [10] (by decide +kernel) ?_))
  k_with "compareOp NotEq str str" => ((with_reducible show wpAny _ _ (compareOp CmpOp.NotEq (Value.str (S _) _) (Value.str (Str.ofString _) _)) _ _ _); k_dflt (first | refine ne_lit [13] (by decide +kernel) ?_ | refine ne_lit [10] (by decide +kernel) ?_))
  k_with "inplaceOp Add str str" => ((with_reducible show wpAny _ _ (inplaceOp Operator.Add (Value.str (S _) _) (Value.str (Str.ofString _) _)) _ _ _); k_dflt (refine iadd_lit [10] (by decide +kernel) (by tb_start) ?_); intro _ _)
  k_with "room" => (k_dflt ((first | apply room4 | apply room3 | apply room2 | apply room1 | apply room0 | apply roomz); assumption; exact rfl))
  k_with "getAttr ref" => ((with_reducible show wpAny _ _ (getAttr (Value.ref _) (Str.ofString "chunk") _) _ _ _); k_dflt (refine g_chunk (by assumption) (by k_asm) (by k_asm) ?N ?_; (case N => first | k_asm | exact News.tl (by k_asm) | exact News.tl (News.tl (by k_asm)) | exact News.tl (News.tl (News.tl (by k_asm))))); intro _)
  k_with "getAttr ref" => ((with_reducible show wpAny _ _ (getAttr (Value.ref _) (Str.ofString "chunkSize") _) _ _ _); k_dflt (refine g_size (by assumption) (by k_asm) (by k_asm) ?N ?_; (case N => first | k_asm | exact News.tl (by k_asm) | exact News.tl (News.tl (by k_asm)) | exact News.tl (News.tl (News.tl (by k_asm))))); intro _)
  k_with "getAttr ref" => ((with_reducible show wpAny _ _ (getAttr (Value.ref _) (Str.ofString "chunkOffset") _) _ _ _); k_dflt (refine g_off (by assumption) (by k_asm) (by k_asm) ?N ?_; (case N => first | k_asm | exact News.tl (by k_asm) | exact News.tl (News.tl (by k_asm)) | exact News.tl (News.tl (News.tl (by k_asm))))); intro _)
  k_with "getAttr ref" => ((with_reducible show wpAny _ _ (getAttr (Value.ref _) (Str.ofString "prevNumLines") _) _ _ _); k_dflt (refine g_pl (by assumption) (by k_asm) (by k_asm) ?N ?_; (case N => first | k_asm | exact News.tl (by k_asm) | exact News.tl (News.tl (by k_asm)) | exact News.tl (News.tl (News.tl (by k_asm))))); intro _)
  k_with "getAttr ref" => ((with_reducible show wpAny _ _ (getAttr (Value.ref _) (Str.ofString "prevNumCols") _) _ _ _); k_dflt (refine g_pc (by assumption) (by k_asm) (by k_asm) ?N ?_; (case N => first | k_asm | exact News.tl (by k_asm) | exact News.tl (News.tl (by k_asm)) | exact News.tl (News.tl (News.tl (by k_asm))))); intro _)
  k_with "getAttr ref" => ((with_reducible show wpAny _ _ (getAttr (Value.ref _) (Str.ofString "errors") _) _ _ _); k_dflt (refine g_errors (by assumption) (by k_asm) (by k_asm) ?N ?_; (case N => first | k_asm | exact News.tl (by k_asm) | exact News.tl (News.tl (by k_asm)) | exact News.tl (News.tl (News.tl (by k_asm))))); intro _ hE1)
  k_with "getAttr ref" => ((with_reducible show wpAny _ _ (getAttr (Value.ref _) (Str.ofString "dataStream") _) _ _ _); k_dflt (refine g_stream (by assumption) (by k_asm) (by k_asm) ?N ?_; (case N => first | k_asm | exact News.tl (by k_asm) | exact News.tl (News.tl (by k_asm)) | exact News.tl (News.tl (News.tl (by k_asm))))); intro _ hT1)
  k_with "getAttr ref" => ((with_reducible show wpAny _ _ (getAttr (Value.ref _) (Str.ofString "_bufferedCharacter") _) _ _ _); k_dflt (refine g_buf (by assumption) (by k_asm) (by k_asm) ?N ?_; (case N => first | k_asm | exact News.tl (by k_asm) | exact News.tl (News.tl (by k_asm)) | exact News.tl (News.tl (News.tl (by k_asm))))); intro _ hB1; (try cases hB1))
  k_with "getAttr ref" => ((with_reducible show wpAny _ _ (getAttr (Value.ref _) (Str.ofString "reportCharacterErrors") _) _ _ _); k_dflt (refine g_rep (by assumption) (by k_asm) (by k_asm) ?N ?_; (case N => first | k_asm | exact News.tl (by k_asm) | exact News.tl (News.tl (by k_asm)) | exact News.tl (News.tl (News.tl (by k_asm))))); intro _ hR1)
  k_with "getAttr ref" => ((with_reducible show wpAny _ _ (getAttr (Value.ref _) (Str.ofString "_defaultChunkSize") _) _ _ _); k_dflt (refine g_dflt (by assumption) (by k_asm) (by k_asm) ?N ?_; (case N => first | k_asm | exact News.tl (by k_asm) | exact News.tl (News.tl (by k_asm)) | exact News.tl (News.tl (News.tl (by k_asm))))); intro _)
  k_with "getAttr ref" => ((with_reducible show wpAny _ _ (getAttr (Value.ref _) (Str.ofString "text") _) _ _ _); k_dflt (refine g_text (by assumption) (by assumption) (by k_asm) (by k_asm) ?N ?_; (case N => first | k_asm | exact News.tl (by k_asm) | exact News.tl (News.tl (by k_asm)) | exact News.tl (News.tl (News.tl (by k_asm))))); intro _)
  k_with "getAttr ref" => ((with_reducible show wpAny _ _ (getAttr (Value.ref _) (Str.ofString "place") _) _ _ _); k_dflt (refine g_place (by assumption) (by assumption) (by k_asm) (by k_asm) ?N ?_; (case N => first | k_asm | exact News.tl (by k_asm) | exact News.tl (News.tl (by k_asm)) | exact News.tl (News.tl (News.tl (by k_asm))))); intro _)
  k_with "setAttr ref" => ((with_reducible show wpAny _ _ (setAttr (Value.ref _) (Str.ofString "chunk") _) _ _ _); (with_reducible rename LedR _ _ _ _ _ _ _ _ _ _ _ _ _ _ => hLo); k_dflt (refine s_chunk hLo (by k_asm) (by k_asm) ?N ?_; (case N => first | k_asm | exact News.tl (by k_asm) | exact News.tl (News.tl (by k_asm)) | exact News.tl (News.tl (News.tl (by k_asm))))); intro h' n' F' N' hL'; (try k_sweep); clear hLo)
  k_with "setAttr ref" => ((with_reducible show wpAny _ _ (setAttr (Value.ref _) (Str.ofString "chunk") (Value.str (Str.ofString "") _)) _ _ _); (with_reducible rename LedR _ _ _ _ _ _ _ _ _ _ _ _ _ _ => hLo); k_dflt (refine s_chunk0 hLo (by k_asm) (by k_asm) ?N ?_; (case N => first | k_asm | exact News.tl (by k_asm) | exact News.tl (News.tl (by k_asm)) | exact News.tl (News.tl (News.tl (by k_asm))))); intro h' n' F' N' hL'; (try k_sweep); clear hLo)
  k_with "setAttr ref" => ((with_reducible show wpAny _ _ (setAttr (Value.ref _) (Str.ofString "chunkSize") _) _ _ _); (with_reducible rename LedR _ _ _ _ _ _ _ _ _ _ _ _ _ _ => hLo); k_dflt (refine s_size hLo (by k_asm) (by k_asm) ?N ?_; (case N => first | k_asm | exact News.tl (by k_asm) | exact News.tl (News.tl (by k_asm)) | exact News.tl (News.tl (News.tl (by k_asm))))); intro h' n' F' N' hL'; (try k_sweep); clear hLo)
  k_with "setAttr ref" => ((with_reducible show wpAny _ _ (setAttr (Value.ref _) (Str.ofString "chunkOffset") _) _ _ _); (with_reducible rename LedR _ _ _ _ _ _ _ _ _ _ _ _ _ _ => hLo); k_dflt (refine s_off hLo (by k_asm) (by k_asm) ?N ?_; (case N => first | k_asm | exact News.tl (by k_asm) | exact News.tl (News.tl (by k_asm)) | exact News.tl (News.tl (News.tl (by k_asm))))); intro h' n' F' N' hL'; (try k_sweep); clear hLo)
  k_with "setAttr ref" => ((with_reducible show wpAny _ _ (setAttr (Value.ref _) (Str.ofString "prevNumLines") _) _ _ _); (with_reducible rename LedR _ _ _ _ _ _ _ _ _ _ _ _ _ _ => hLo); k_dflt (refine s_pl hLo (by k_asm) (by k_asm) ?N ?_; (case N => first | k_asm | exact News.tl (by k_asm) | exact News.tl (News.tl (by k_asm)) | exact News.tl (News.tl (News.tl (by k_asm))))); intro h' n' F' N' hL'; (try k_sweep); clear hLo)
  k_with "setAttr ref" => ((with_reducible show wpAny _ _ (setAttr (Value.ref _) (Str.ofString "prevNumCols") _) _ _ _); (with_reducible rename LedR _ _ _ _ _ _ _ _ _ _ _ _ _ _ => hLo); k_dflt (refine s_pc hLo (by k_asm) (by k_asm) ?N ?_; (case N => first | k_asm | exact News.tl (by k_asm) | exact News.tl (News.tl (by k_asm)) | exact News.tl (News.tl (News.tl (by k_asm))))); intro h' n' F' N' hL'; (try k_sweep); clear hLo)
  k_with "setAttr ref" => ((with_reducible show wpAny _ _ (setAttr (Value.ref _) (Str.ofString "_bufferedCharacter") _) _ _ _); (with_reducible rename LedR _ _ _ _ _ _ _ _ _ _ _ _ _ _ => hLo); k_dflt (refine s_buf (by first | exact BufIs.none | exact BufIs.some | assumption) hLo (by k_asm) (by k_asm) ?N ?_; (case N => first | k_asm | exact News.tl (by k_asm) | exact News.tl (News.tl (by k_asm)) | exact News.tl (News.tl (News.tl (by k_asm))))); intro h' n' F' N' hL'; (try k_sweep); clear hLo)
  k_with "setAttr ref" => ((with_reducible show wpAny _ _ (setAttr (Value.ref _) (Str.ofString "place") _) _ _ _); (with_reducible rename LedR _ _ _ _ _ _ _ _ _ _ _ _ _ _ => hLo); k_dflt (refine s_place hLo (by assumption) (by k_asm) (by k_asm) ?N ?_; (case N => first | k_asm | exact News.tl (by k_asm) | exact News.tl (News.tl (by k_asm)) | exact News.tl (News.tl (News.tl (by k_asm))))); intro h' n' F' N' hL'; (try k_sweep); clear hLo)
  k_with "getMethod ref" => ((with_reducible show wpAny _ _ (getMethod (Value.ref _) (Str.ofString "_position") _) _ _ _); k_dflt (refine m_pos_ (by assumption) (by k_asm) (by k_asm) ?N ?_; (case N => first | k_asm | exact News.tl (by k_asm) | exact News.tl (News.tl (by k_asm)) | exact News.tl (News.tl (News.tl (by k_asm))))))
  k_with "getMethod ref" => ((with_reducible show wpAny _ _ (getMethod (Value.ref _) (Str.ofString "position") _) _ _ _); k_dflt (refine m_pos (by assumption) (by k_asm) (by k_asm) ?N ?_; (case N => first | k_asm | exact News.tl (by k_asm) | exact News.tl (News.tl (by k_asm)) | exact News.tl (News.tl (News.tl (by k_asm))))))
  k_with "getMethod ref" => ((with_reducible show wpAny _ _ (getMethod (Value.ref _) (Str.ofString "char") _) _ _ _); k_dflt (refine m_char (by assumption) (by k_asm) (by k_asm) ?N ?_; (case N => first | k_asm | exact News.tl (by k_asm) | exact News.tl (News.tl (by k_asm)) | exact News.tl (News.tl (News.tl (by k_asm))))))
  k_with "getMethod ref" => ((with_reducible show wpAny _ _ (getMethod (Value.ref _) (Str.ofString "readChunk") _) _ _ _); k_dflt (refine m_chunk (by assumption) (by k_asm) (by k_asm) ?N ?_; (case N => first | k_asm | exact News.tl (by k_asm) | exact News.tl (News.tl (by k_asm)) | exact News.tl (News.tl (News.tl (by k_asm))))))
  k_with "getMethod ref" => ((with_reducible show wpAny _ _ (getMethod (Value.ref _) (Str.ofString "unget") _) _ _ _); k_dflt (refine m_unget (by assumption) (by k_asm) (by k_asm) ?N ?_; (case N => first | k_asm | exact News.tl (by k_asm) | exact News.tl (News.tl (by k_asm)) | exact News.tl (News.tl (News.tl (by k_asm))))))
  k_with "getMethod ref" => ((with_reducible show wpAny _ _ (getMethod (Value.ref _) (Str.ofString "charsUntil") _) _ _ _); k_dflt (refine m_until (by assumption) (by k_asm) (by k_asm) ?N ?_; (case N => first | k_asm | exact News.tl (by k_asm) | exact News.tl (News.tl (by k_asm)) | exact News.tl (News.tl (News.tl (by k_asm))))))
  k_with "getMethod ref" => ((with_reducible show wpAny _ _ (getMethod (Value.ref _) (Str.ofString "read") _) _ _ _); k_dflt (refine m_read (by assumption) (by assumption) (by k_asm) (by k_asm) ?N ?_; (case N => first | k_asm | exact News.tl (by k_asm) | exact News.tl (News.tl (by k_asm)) | exact News.tl (News.tl (News.tl (by k_asm))))))
  k_with "getMethod ref" => ((with_reducible show wpAny _ _ (getMethod (Value.ref _) (Str.ofString "reportCharacterErrors") _) _ _ _); k_dflt (refine m_rep (by assumption) (by k_asm) (by k_asm) ?N ?_; (case N => first | k_asm | exact News.tl (by k_asm) | exact News.tl (News.tl (by k_asm)) | exact News.tl (News.tl (News.tl (by k_asm))))); intro _ hR1)
  k_with "getMethod ref" => ((with_reducible show wpAny _ _ (getMethod (Value.ref _) (Str.ofString "append") _) _ _ _); k_dflt (refine m_append (by assumption) (by assumption) (by k_asm) (by k_asm) ?N ?_; (case N => first | k_asm | exact News.tl (by k_asm) | exact News.tl (News.tl (by k_asm)) | exact News.tl (News.tl (News.tl (by k_asm))))))
  k_with "call builtin:list.append" => ((with_reducible rename LedR _ _ _ _ _ _ _ _ _ _ _ _ _ _ => hLo); k_dflt (refine app_err hLo (by assumption) (by k_asm) (by k_asm) ?N (by lia) ?_; (case N => first | k_asm | exact News.tl (by k_asm) | exact News.tl (News.tl (by k_asm)) | exact News.tl (News.tl (News.tl (by k_asm))))); intro h' n' F' N' hL'; (try k_sweep); clear hLo)
  k_with "call ref" => ((with_reducible show wpAny _ _ (call (Value.ref 84) _) _ _ _); k_dflt ((refine' Spec.usePos (pos_spec (by assumption) o _ ho hsz) rfl ?B ?F ?X ?N ?T ?hk ?hd ?hu ?_); (case B => k_asm); (case F => k_asm); (case X => k_asm); (case T => k_asm); (case hk => first | exact rfl | assumption); (case N => first | k_asm | exact News.tl (by k_asm) | exact News.tl (News.tl (by k_asm)) | exact News.tl (News.tl (News.tl (by k_asm)))); (case hd => ktr_room); (case hu => ktr_units); intro D' ta' tb' h' tk' hlt' hle' F' N'; (try dsimp only); (try k_fold)))
  k_dflt (k_extra "enter")
  (rename Fr _ _ _ _ => F1)
  (with_unfolding_all change Fr _ _ _ (fun y => List.lookup y [(Str.ofString "self", Value.ref x)]) at F1)
  k_steps
  all_goals (
    refine hret _ _ _ _ ⟨_, _, _, _, _, rfl, ?_, rfl, ?_, rfl⟩ (by assumption) (News.dr (by assumption))
    · first | exact kst_ltOf (And.right (by assumption)) | assumption
    · rfl)
end
section
variable {w : World} {mean : ExcName → Option Value} {mg mb : Str → Option Value} {R : List Nat} {rest : List (Addr × Obj)} {ad : List Nat} {x xT : Nat} {ck : List Nat} {sz of : Int} {er : Nat} {pl pc : Int} {bf : Option Nat} {pla : Nat} {news : List (Addr × Obj)}
set_option maxRecDepth 100000 in
set_option maxHeartbeats 8000000 in
theorem inv_spec (c : Nat) (t : Tok) (news : List (Addr × Obj)) : Spec w mean mg mb 49 [.int (c : Int) t] 5 30 news (fun v n => v = .bool (isInv c) ∧ n = news) := by
  refine Spec.of ?_
  intro dp un gd cn cs a ccd cl outer A₀ base h₀ L m s Q E B F X N T hk hd hu hret
  k_with_none
  k_with "tb" => (first | assumption | (apply le3; assumption; exact rfl) | lia | (simp only [List.length_append, List.length_cons, List.length_nil, List.length_take, List.length_drop, List.length_dropLast, crs_len, partOf_len] at *; lia) | ((with_reducible refine Nat.le_trans (crlf_len _) ?_); tb_start) | ((with_reducible refine Nat.le_trans (split_len _) ?_); tb_start) | ((with_reducible refine Nat.le_trans (norm_len _) ?_); tb_start))
  k_with "call builtin:str.count" => (refine count4 (by decide +kernel) (by first | assumption | lia) ?_)
  k_with "call builtin:str.rfind" => (refine rfind4 (by decide +kernel) (by first | assumption | lia) ?_)
  k_with "call builtin:str.replace" => ((try dsimp only at *); k_dflt (refine repl_crlf_S (by decide +kernel) (by decide +kernel) (by k_ne) (by k_ne) (by k_ne) (by tb_start) ?_); intro _ _ _)
  k_with "call builtin:str.replace" => ((try dsimp only at *); k_dflt (refine repl_cr_S (by decide +kernel) (by decide +kernel) (by k_ne) (by k_ne) (by k_ne) (by tb_start) ?_); intro _ _ _)
  k_with "call builtin:len" => ((with_reducible show wpAny _ _ (call (Value.builtin "len") [Value.str (S _) _]) _ _ _); refine len_S (by tb_start) ?_)
  k_with "call builtin:ord" => ((with_reducible show wpAny _ _ (call (Value.builtin "ord") [Value.str (S _) _]) _ _ _); refine ord_S ?_)
  k_with "binaryOp Add str str" => ((with_reducible show wpAny _ _ (binaryOp Operator.Add (Value.str (S _) _) (Value.str (S _) _)) _ _ _); refine add_S (by tb_start) ?_; intro _ _)
  k_with "inplaceOp Add str str" => ((with_reducible show wpAny _ _ (inplaceOp Operator.Add (Value.str (S _) _) (Value.str (S _) _)) _ _ _); refine iadd_S (by tb_start) ?_; intro _ _)
  k_with "truthy str" => ((with_reducible show wpAny _ _ (truthy (Value.str (S _) _)) _ _ _); refine truthy_S (by tb_start) ?_)
  k_with "compareOp Eq str str" => ((with_reducible show wpAny _ _ (compareOp CmpOp.Eq (Value.str (S _) _) (Value.str (S _) _)) _ _ _); refine eq_S ?_)
  k_with "compareOp NotEq str str" => ((with_reducible show wpAny _ _ (compareOp CmpOp.NotEq (Value.str (S _) _) (Value.str (S _) _)) _ _ _); refine ne_S ?_)
  k_with "subscriptTail Name Slice str ref" => (k_here; (with_reducible rename Fr _ _ _ _ => F'); (with_reducible rename News _ _ _ _ => N'); k_dflt (refine drop_S (s := ⟨_, _, _, _, _⟩) F' N' (by tb_start) ?_); intro _ _ _ _ _; (try k_sweep))
  k_with "subscriptTail Name Slice str ref" => (k_here; (with_reducible rename Fr _ _ _ _ => F'); (with_reducible rename News _ _ _ _ => N'); k_dflt (refine take_S (s := ⟨_, _, _, _, _⟩) F' N' (by tb_start) ?_); intro _ _ _ _ _; (try k_sweep))
  k_with "subscriptTail Name Slice str ref" => (k_here; (with_reducible rename Fr _ _ _ _ => F'); (with_reducible rename News _ _ _ _ => N'); k_dflt (refine mid_S (s := ⟨_, _, _, _, _⟩) F' N' (by tb_start) ?_); intro _ _ _ _ _; (try k_sweep))
  k_with "subscriptTail Name Slice str ref" => (k_here; (with_reducible rename Fr _ _ _ _ => F'); (with_reducible rename News _ _ _ _ => N'); k_dflt (refine part_S (s := ⟨_, _, _, _, _⟩) F' N' (by tb_start) ?_); intro _ _ _ _ _; (try k_sweep))
  k_with "subscriptTail Name Slice str ref" => (k_here; (with_reducible rename Fr _ _ _ _ => F'); (with_reducible rename News _ _ _ _ => N'); k_dflt (refine init_S (s := ⟨_, _, _, _, _⟩) F' N' (by tb_start) ?_); intro _ _ _ _ _; (try k_sweep))
  k_with "subscriptTail Name UnaryOp str int" => (k_here; (with_reducible show wpAny _ _ (subscriptTail _ _ (Value.str (S _) _) (Value.int _ _)) _ _ _); k_dflt (first | (refine last_S (by first | assumption | (intro hz; simp only [hz, List.length_nil] at *; lia)) (by tb_start) ?_) | (refine item_S (by first | assumption | lia | k_extra "my item") (by tb_start) ?_)))
  k_with "subscriptTail Name Name str int" => (k_here; (with_reducible show wpAny _ _ (subscriptTail _ _ (Value.str (S _) _) (Value.int _ _)) _ _ _); first | (with_reducible refine item_S (by k_dflt (first | assumption | lia | k_extra "my item")) (by k_dflt tb_start) ?_) | k_dflt (refine item_Si (by lia) (by first | lia | k_extra "my item") (by tb_start) ?_))
  k_with "subscriptTail Name Constant str int" => (k_here; (with_reducible show wpAny _ _ (subscriptTail _ _ (Value.str (S _) _) (Value.int _ _)) _ _ _); first | (with_reducible refine item_S (by k_dflt (first | assumption | lia | k_extra "my item")) (by k_dflt tb_start) ?_) | k_dflt (refine item_Si (by lia) (by first | lia | k_extra "my item") (by tb_start) ?_))
  k_with "subscriptTail Name BinOp str int" => (k_here; (with_reducible show wpAny _ _ (subscriptTail _ _ (Value.str (S _) _) (Value.int _ _)) _ _ _); first | (with_reducible refine item_S (by k_dflt (first | assumption | lia | k_extra "my item")) (by k_dflt tb_start) ?_) | k_dflt (refine item_Si (by lia) (by first | lia | k_extra "my item") (by tb_start) ?_))
  k_with "subscriptTail Attribute Name str int" => (k_here; (with_reducible show wpAny _ _ (subscriptTail _ _ (Value.str (S _) _) (Value.int _ _)) _ _ _); first | (with_reducible refine item_S (by k_dflt (first | assumption | lia | k_extra "my item")) (by k_dflt tb_start) ?_) | k_dflt (refine item_Si (by lia) (by first | lia | k_extra "my item") (by tb_start) ?_))
  k_with "subscriptTail Attribute Constant str int" => (k_here; (with_reducible show wpAny _ _ (subscriptTail _ _ (Value.str (S _) _) (Value.int _ _)) _ _ _); first | (with_reducible refine item_S (by k_dflt (first | assumption | lia | k_extra "my item")) (by k_dflt tb_start) ?_) | k_dflt (refine item_Si (by lia) (by first | lia | k_extra "my item") (by tb_start) ?_))
  k_with "subscriptTail Attribute Attribute str int" => (k_here; (with_reducible show wpAny _ _ (subscriptTail _ _ (Value.str (S _) _) (Value.int _ _)) _ _ _); first | (with_reducible refine item_S (by k_dflt (first | assumption | lia | k_extra "my item")) (by k_dflt tb_start) ?_) | k_dflt (refine item_Si (by lia) (by first | lia | k_extra "my item") (by tb_start) ?_))
  k_with "truthy ref" => (k_here; k_dflt (refine' truthy_meth ?N ?q ?_; (case N => k_asm); (case q => k_mem); k_whole))
  k_with "exec For Name Name cons nil" => (k_here; (with_reducible rename Fr _ _ _ _ => lF'); k_dflt (refine' For_invVF lF' ?k1 ?k2 ?_; (case k1 => exact rfl); (case k2 => exact rfl); k_whole))
  k_with "exec For Name Subscript cons nil" => (k_here; (with_reducible rename Fr _ _ _ _ => lF'); k_dflt (refine' For_invVF lF' ?k1 ?k2 ?_; (case k1 => exact rfl); (case k2 => exact rfl); k_whole))
  k_with "all" => (refine List.forall_mem_append.mpr ⟨?a, ?b⟩; (case a => k_all); (case b => k_all))
  k_with "rel" => (simp only [List.size_toArray]; rw [PySem.sizeLine_eq]; lia)
  k_with "call builtin:list.append" => (k_here; (with_reducible show wpAny _ _ (call (Value.builtin _) [Value.ref _, _]) _ _ _); k_dflt (refine' append_K ?k1 ?k2 ?k3 ?_ ?z; (case k1 => k_asm); (case k2 => k_asm); (case k3 => k_upd); (case z => tb_rel); k_whole); intro h' F' N'; (try simp only [List.push_toArray] at N'); (try k_sweep))
  k_with "enter" => (refine' code_def ?k1 ?k2 ?k3 ?k4 ?k5 ?kA ?kF ?kK ?k6 ?k7 ?k8 ?k9 ?kB ?_ ?c2 ?c3 ?c4 ?c5; (case kA => exact rfl); (case kF => exact rfl); (case kK => assumption); (case k1 => k_asm); (case k2 => k_asm); (case k3 => k_asm); (case k4 => k_asm); (case k5 => k_asm); (case k6 => k_is); (case k7 => k_is); (case k8 => ktr_room); (case k9 => first | exact BindsTo.of_eq rfl | exact binds_K (by k_in) rfl (by k_is) rfl rfl rfl); (case c5 => decide); (case kB => exact locs rfl); (case c2 => exact rfl); (case c3 => exact rfl); (case c4 => exact rfl); k_whole; intro g' L' h' FG' F' N' B' X' T'; (try dsimp only); (try k_lift B'); (try k_fold))
  k_with "JoinP" => (dsimp only [JoinP])
  k_with "subscriptTail" => (k_here; (with_reducible show wpAny _ _ (subscriptTail _ _ (Value.str (S _) _) (Value.int _ _)) _ _ _); first | (with_reducible refine item_S (by k_dflt (first | assumption | lia | k_extra "my item")) (by k_dflt tb_start) ?_) | k_dflt (refine item_Si (by lia) (by first | lia | k_extra "my item") (by tb_start) ?_))
  k_with "compareOp Eq str str" => ((with_reducible show wpAny _ _ (compareOp CmpOp.Eq (Value.str (S _) _) (Value.str (Str.ofString _) _)) _ _ _); k_dflt (first | refine eq_lit [13] (by decide +kernel) ?_ | refine eq_lit [10] (by decide +kernel) ?_))
  k_with "compareOp NotEq str str" => ((with_reducible show wpAny _ _ (compareOp CmpOp.NotEq (Value.str (S _) _) (Value.str (Str.ofString _) _)) _ _ _); k_dflt (first | refine ne_lit [13] (by decide +kernel) ?_ | refine ne_lit [10] (by decide +kernel) ?_))
  k_with "inplaceOp Add str str" => ((with_reducible show wpAny _ _ (inplaceOp Operator.Add (Value.str (S _) _) (Value.str (Str.ofString _) _)) _ _ _); k_dflt (refine iadd_lit [10] (by decide +kernel) (by tb_start) ?_); intro _ _)
  k_with "room" => (k_dflt ((first | apply room4 | apply room3 | apply room2 | apply room1 | apply room0 | apply roomz); assumption; exact rfl))
  k_with "eval BoolOp" => ((with_reducible show wpAny _ _ (eval (Expr.BoolOp BoolOp.Or [_, _, _, _, _, _, _] _) _) _ _ _); (rename Fr _ _ _ _ => F1); (rename News _ _ _ _ => N1); k_dflt (refine' join_e (fun v => v = .bool (isInv c)) ?jF ?jN ?ja ?jb); (case' jF => exact F1); (case' jN => exact N1); (case' jb => clear F1 N1; intro v h' tk' hv F' N'; subst hv; (try k_fold)))
  k_dflt (k_extra "enter")
  (rename Fr _ _ _ _ => F1)
  (with_unfolding_all change Fr _ _ _ (fun y => List.lookup y [(Str.ofString "codepoint", Value.int (c : Int) t)]) at F1)
  k_steps
  all_goals first
    | exact hret _ _ _ _ ⟨rfl, rfl⟩ (by assumption) (by assumption)
    | refine join_e_end (by assumption) (by first | assumption | exact News.tl (by assumption)) (congrArg Value.bool ?_)
  all_goals first
    | exact inv_t (.inr (.inl (by lia))) (beq_iff_eq.mpr (by assumption))
    | exact inv_t (.inr (.inr (.inr (.inr (.inr (.inl ((inv_mod (by assumption)).mp rfl))))))) (by assumption)
    | (have h6 := mt (inv_mod (by assumption)).mpr Bool.false_ne_true
       by_cases hz : (c : Int) ≤ 57343 ∧ 55296 ≤ (c : Int)
       · exact inv_t (.inr (.inr (.inr (.inr (.inr (.inr ⟨by lia, by lia⟩)))))) (decide_eq_true (by lia))
       · exact inv_f (by lia) (by lia) (by lia) (by lia) (by lia) h6 (by lia) (decide_eq_false (by lia)))
    | exact inv_t (.inl ⟨by lia, by lia⟩) (decide_eq_true (by assumption))
    | exact inv_t (.inr (.inr (.inl ⟨by lia, by lia⟩))) (decide_eq_true (by assumption))
    | exact inv_t (.inr (.inr (.inr (.inl ⟨by lia, by lia⟩)))) (decide_eq_true (by assumption))
    | exact inv_t (.inr (.inr (.inr (.inr (.inl ⟨by lia, by lia⟩))))) (decide_eq_true (by assumption))
    | trace_state

set_option maxRecDepth 100000 in
set_option maxHeartbeats 8000000 in
theorem read_spec (hL : LedR w R rest ad x ck sz of er pl pc bf (pla : Int) news) (hT : ad[1]? = some xT) (size : Nat) (t : Tok) (hR : R.length ≤ 1000) (hp : pla ≤ 1000) (hsz : size ≤ 100000) :
    Spec w mean mg mb 35 [.ref xT, .int (size : Int) t] 5 60 news (fun v n => (∃ t', v = .str (S (partOf R size pla)) t') ∧ LedR w R rest ad x ck sz of er pl pc bf ((pla + (partOf R size pla).length : Nat) : Int) n) := by
  refine Spec.of ?_
  intro dp un gd cn cs a ccd cl outer A₀ base h₀ L m s Q E B F X N T hk hd hu hret
  k_with_none
  k_with "tb" => (first | assumption | (apply le3; assumption; exact rfl) | lia | (simp only [List.length_append, List.length_cons, List.length_nil, List.length_take, List.length_drop, List.length_dropLast, crs_len, partOf_len] at *; lia) | ((with_reducible refine Nat.le_trans (crlf_len _) ?_); tb_start) | ((with_reducible refine Nat.le_trans (split_len _) ?_); tb_start) | ((with_reducible refine Nat.le_trans (norm_len _) ?_); tb_start))
  k_with "call builtin:str.count" => (refine count4 (by decide +kernel) (by first | assumption | lia) ?_)
  k_with "call builtin:str.rfind" => (refine rfind4 (by decide +kernel) (by first | assumption | lia) ?_)
  k_with "call builtin:str.replace" => ((try dsimp only at *); k_dflt (refine repl_crlf_S (by decide +kernel) (by decide +kernel) (by k_ne) (by k_ne) (by k_ne) (by tb_start) ?_); intro _ _ _)
  k_with "call builtin:str.replace" => ((try dsimp only at *); k_dflt (refine repl_cr_S (by decide +kernel) (by decide +kernel) (by k_ne) (by k_ne) (by k_ne) (by tb_start) ?_); intro _ _ _)
  k_with "call builtin:len" => ((with_reducible show wpAny _ _ (call (Value.builtin "len") [Value.str (S _) _]) _ _ _); refine len_S (by tb_start) ?_)
  k_with "call builtin:ord" => ((with_reducible show wpAny _ _ (call (Value.builtin "ord") [Value.str (S _) _]) _ _ _); refine ord_S ?_)
  k_with "binaryOp Add str str" => ((with_reducible show wpAny _ _ (binaryOp Operator.Add (Value.str (S _) _) (Value.str (S _) _)) _ _ _); refine add_S (by tb_start) ?_; intro _ _)
  k_with "inplaceOp Add str str" => ((with_reducible show wpAny _ _ (inplaceOp Operator.Add (Value.str (S _) _) (Value.str (S _) _)) _ _ _); refine iadd_S (by tb_start) ?_; intro _ _)
  k_with "truthy str" => ((with_reducible show wpAny _ _ (truthy (Value.str (S _) _)) _ _ _); refine truthy_S (by tb_start) ?_)
  k_with "compareOp Eq str str" => ((with_reducible show wpAny _ _ (compareOp CmpOp.Eq (Value.str (S _) _) (Value.str (S _) _)) _ _ _); refine eq_S ?_)
  k_with "compareOp NotEq str str" => ((with_reducible show wpAny _ _ (compareOp CmpOp.NotEq (Value.str (S _) _) (Value.str (S _) _)) _ _ _); refine ne_S ?_)
  k_with "subscriptTail Name Slice str ref" => (k_here; (with_reducible rename Fr _ _ _ _ => F'); (with_reducible rename News _ _ _ _ => N'); k_dflt (refine drop_S (s := ⟨_, _, _, _, _⟩) F' N' (by tb_start) ?_); intro _ _ _ _ _; (try k_sweep))
  k_with "subscriptTail Name Slice str ref" => (k_here; (with_reducible rename Fr _ _ _ _ => F'); (with_reducible rename News _ _ _ _ => N'); k_dflt (refine take_S (s := ⟨_, _, _, _, _⟩) F' N' (by tb_start) ?_); intro _ _ _ _ _; (try k_sweep))
  k_with "subscriptTail Name Slice str ref" => (k_here; (with_reducible rename Fr _ _ _ _ => F'); (with_reducible rename News _ _ _ _ => N'); k_dflt (refine mid_S (s := ⟨_, _, _, _, _⟩) F' N' (by tb_start) ?_); intro _ _ _ _ _; (try k_sweep))
  k_with "subscriptTail Name Slice str ref" => (k_here; (with_reducible rename Fr _ _ _ _ => F'); (with_reducible rename News _ _ _ _ => N'); k_dflt (refine part_S (s := ⟨_, _, _, _, _⟩) F' N' (by tb_start) ?_); intro _ _ _ _ _; (try k_sweep))
  k_with "subscriptTail Name Slice str ref" => (k_here; (with_reducible rename Fr _ _ _ _ => F'); (with_reducible rename News _ _ _ _ => N'); k_dflt (refine init_S (s := ⟨_, _, _, _, _⟩) F' N' (by tb_start) ?_); intro _ _ _ _ _; (try k_sweep))
  k_with "subscriptTail Name UnaryOp str int" => (k_here; (with_reducible show wpAny _ _ (subscriptTail _ _ (Value.str (S _) _) (Value.int _ _)) _ _ _); k_dflt (first | (refine last_S (by first | assumption | (intro hz; simp only [hz, List.length_nil] at *; lia)) (by tb_start) ?_) | (refine item_S (by first | assumption | lia | k_extra "my item") (by tb_start) ?_)))
  k_with "subscriptTail Name Name str int" => (k_here; (with_reducible show wpAny _ _ (subscriptTail _ _ (Value.str (S _) _) (Value.int _ _)) _ _ _); first | (with_reducible refine item_S (by k_dflt (first | assumption | lia | k_extra "my item")) (by k_dflt tb_start) ?_) | k_dflt (refine item_Si (by lia) (by first | lia | k_extra "my item") (by tb_start) ?_))
  k_with "subscriptTail Name Constant str int" => (k_here; (with_reducible show wpAny _ _ (subscriptTail _ _ (Value.str (S _) _) (Value.int _ _)) _ _ _); first | (with_reducible refine item_S (by k_dflt (first | assumption | lia | k_extra "my item")) (by k_dflt tb_start) ?_) | k_dflt (refine item_Si (by lia) (by first | lia | k_extra "my item") (by tb_start) ?_))
  k_with "subscriptTail Name BinOp str int" => (k_here; (with_reducible show wpAny _ _ (subscriptTail _ _ (Value.str (S _) _) (Value.int _ _)) _ _ _); first | (with_reducible refine item_S (by k_dflt (first | assumption | lia | k_extra "my item")) (by k_dflt tb_start) ?_) | k_dflt (refine item_Si (by lia) (by first | lia | k_extra "my item") (by tb_start) ?_))
  k_with "subscriptTail Attribute Name str int" => (k_here; (with_reducible show wpAny _ _ (subscriptTail _ _ (Value.str (S _) _) (Value.int _ _)) _ _ _); first | (with_reducible refine item_S (by k_dflt (first | assumption | lia | k_extra "my item")) (by k_dflt tb_start) ?_) | k_dflt (refine item_Si (by lia) (by first | lia | k_extra "my item") (by tb_start) ?_))
  k_with "subscriptTail Attribute Constant str int" => (k_here; (with_reducible show wpAny _ _ (subscriptTail _ _ (Value.str (S _) _) (Value.int _ _)) _ _ _); first | (with_reducible refine item_S (by k_dflt (first | assumption | lia | k_extra "my item")) (by k_dflt tb_start) ?_) | k_dflt (refine item_Si (by lia) (by first | lia | k_extra "my item") (by tb_start) ?_))
  k_with "subscriptTail Attribute Attribute str int" => (k_here; (with_reducible show wpAny _ _ (subscriptTail _ _ (Value.str (S _) _) (Value.int _ _)) _ _ _); first | (with_reducible refine item_S (by k_dflt (first | assumption | lia | k_extra "my item")) (by k_dflt tb_start) ?_) | k_dflt (refine item_Si (by lia) (by first | lia | k_extra "my item") (by tb_start) ?_))
  k_with "truthy ref" => (k_here; k_dflt (refine' truthy_meth ?N ?q ?_; (case N => k_asm); (case q => k_mem); k_whole))
  k_with "exec For Name Name cons nil" => (k_here; (with_reducible rename Fr _ _ _ _ => lF'); k_dflt (refine' For_invVF lF' ?k1 ?k2 ?_; (case k1 => exact rfl); (case k2 => exact rfl); k_whole))
  k_with "exec For Name Subscript cons nil" => (k_here; (with_reducible rename Fr _ _ _ _ => lF'); k_dflt (refine' For_invVF lF' ?k1 ?k2 ?_; (case k1 => exact rfl); (case k2 => exact rfl); k_whole))
  k_with "all" => (refine List.forall_mem_append.mpr ⟨?a, ?b⟩; (case a => k_all); (case b => k_all))
  k_with "rel" => (simp only [List.size_toArray]; rw [PySem.sizeLine_eq]; lia)
  k_with "call builtin:list.append" => (k_here; (with_reducible show wpAny _ _ (call (Value.builtin _) [Value.ref _, _]) _ _ _); k_dflt (refine' append_K ?k1 ?k2 ?k3 ?_ ?z; (case k1 => k_asm); (case k2 => k_asm); (case k3 => k_upd); (case z => tb_rel); k_whole); intro h' F' N'; (try simp only [List.push_toArray] at N'); (try k_sweep))
  k_with "enter" => (refine' code_def ?k1 ?k2 ?k3 ?k4 ?k5 ?kA ?kF ?kK ?k6 ?k7 ?k8 ?k9 ?kB ?_ ?c2 ?c3 ?c4 ?c5; (case kA => exact rfl); (case kF => exact rfl); (case kK => assumption); (case k1 => k_asm); (case k2 => k_asm); (case k3 => k_asm); (case k4 => k_asm); (case k5 => k_asm); (case k6 => k_is); (case k7 => k_is); (case k8 => ktr_room); (case k9 => first | exact BindsTo.of_eq rfl | exact binds_K (by k_in) rfl (by k_is) rfl rfl rfl); (case c5 => decide); (case kB => exact locs rfl); (case c2 => exact rfl); (case c3 => exact rfl); (case c4 => exact rfl); k_whole; intro g' L' h' FG' F' N' B' X' T'; (try dsimp only); (try k_lift B'); (try k_fold))
  k_with "JoinP" => (dsimp only [JoinP])
  k_with "subscriptTail" => (k_here; (with_reducible show wpAny _ _ (subscriptTail _ _ (Value.str (S _) _) (Value.int _ _)) _ _ _); first | (with_reducible refine item_S (by k_dflt (first | assumption | lia | k_extra "my item")) (by k_dflt tb_start) ?_) | k_dflt (refine item_Si (by lia) (by first | lia | k_extra "my item") (by tb_start) ?_))
  k_with "compareOp Eq str str" => ((with_reducible show wpAny _ _ (compareOp CmpOp.Eq (Value.str (S _) _) (Value.str (Str.ofString _) _)) _ _ _); k_dflt (first | refine eq_lit [13] (by decide +kernel) ?_ | refine eq_lit [10] (by decide +kernel) ?_))
  k_with "compareOp NotEq str str" => ((with_reducible show wpAny _ _ (compareOp CmpOp.NotEq (Value.str (S _) _) (Value.str (Str.ofString _) _)) _ _ _); k_dflt (first | refine ne_lit [13] (by decide +kernel) ?_ | refine ne_lit [10] (by decide +kernel) ?_))
  k_with "inplaceOp Add str str" => ((with_reducible show wpAny _ _ (inplaceOp Operator.Add (Value.str (S _) _) (Value.str (Str.ofString _) _)) _ _ _); k_dflt (refine iadd_lit [10] (by decide +kernel) (by tb_start) ?_); intro _ _)
  k_with "room" => (k_dflt ((first | apply room4 | apply room3 | apply room2 | apply room1 | apply room0 | apply roomz); assumption; exact rfl))
  k_with "getAttr ref" => ((with_reducible show wpAny _ _ (getAttr (Value.ref _) (Str.ofString "chunk") _) _ _ _); k_dflt (refine g_chunk (by assumption) (by k_asm) (by k_asm) ?N ?_; (case N => first | k_asm | exact News.tl (by k_asm) | exact News.tl (News.tl (by k_asm)) | exact News.tl (News.tl (News.tl (by k_asm))))); intro _)
  k_with "getAttr ref" => ((with_reducible show wpAny _ _ (getAttr (Value.ref _) (Str.ofString "chunkSize") _) _ _ _); k_dflt (refine g_size (by assumption) (by k_asm) (by k_asm) ?N ?_; (case N => first | k_asm | exact News.tl (by k_asm) | exact News.tl (News.tl (by k_asm)) | exact News.tl (News.tl (News.tl (by k_asm))))); intro _)
  k_with "getAttr ref" => ((with_reducible show wpAny _ _ (getAttr (Value.ref _) (Str.ofString "chunkOffset") _) _ _ _); k_dflt (refine g_off (by assumption) (by k_asm) (by k_asm) ?N ?_; (case N => first | k_asm | exact News.tl (by k_asm) | exact News.tl (News.tl (by k_asm)) | exact News.tl (News.tl (News.tl (by k_asm))))); intro _)
  k_with "getAttr ref" => ((with_reducible show wpAny _ _ (getAttr (Value.ref _) (Str.ofString "prevNumLines") _) _ _ _); k_dflt (refine g_pl (by assumption) (by k_asm) (by k_asm) ?N ?_; (case N => first | k_asm | exact News.tl (by k_asm) | exact News.tl (News.tl (by k_asm)) | exact News.tl (News.tl (News.tl (by k_asm))))); intro _)
  k_with "getAttr ref" => ((with_reducible show wpAny _ _ (getAttr (Value.ref _) (Str.ofString "prevNumCols") _) _ _ _); k_dflt (refine g_pc (by assumption) (by k_asm) (by k_asm) ?N ?_; (case N => first | k_asm | exact News.tl (by k_asm) | exact News.tl (News.tl (by k_asm)) | exact News.tl (News.tl (News.tl (by k_asm))))); intro _)
  k_with "getAttr ref" => ((with_reducible show wpAny _ _ (getAttr (Value.ref _) (Str.ofString "errors") _) _ _ _); k_dflt (refine g_errors (by assumption) (by k_asm) (by k_asm) ?N ?_; (case N => first | k_asm | exact News.tl (by k_asm) | exact News.tl (News.tl (by k_asm)) | exact News.tl (News.tl (News.tl (by k_asm))))); intro _ hE1)
  k_with "getAttr ref" => ((with_reducible show wpAny _ _ (getAttr (Value.ref _) (Str.ofString "dataStream") _) _ _ _); k_dflt (refine g_stream (by assumption) (by k_asm) (by k_asm) ?N ?_; (case N => first | k_asm | exact News.tl (by k_asm) | exact News.tl (News.tl (by k_asm)) | exact News.tl (News.tl (News.tl (by k_asm))))); intro _ hT1)
  k_with "getAttr ref" => ((with_reducible show wpAny _ _ (getAttr (Value.ref _) (Str.ofString "_bufferedCharacter") _) _ _ _); k_dflt (refine g_buf (by assumption) (by k_asm) (by k_asm) ?N ?_; (case N => first | k_asm | exact News.tl (by k_asm) | exact News.tl (News.tl (by k_asm)) | exact News.tl (News.tl (News.tl (by k_asm))))); intro _ hB1; (try cases hB1))
  k_with "getAttr ref" => ((with_reducible show wpAny _ _ (getAttr (Value.ref _) (Str.ofString "reportCharacterErrors") _) _ _ _); k_dflt (refine g_rep (by assumption) (by k_asm) (by k_asm) ?N ?_; (case N => first | k_asm | exact News.tl (by k_asm) | exact News.tl (News.tl (by k_asm)) | exact News.tl (News.tl (News.tl (by k_asm))))); intro _ hR1)
  k_with "getAttr ref" => ((with_reducible show wpAny _ _ (getAttr (Value.ref _) (Str.ofString "_defaultChunkSize") _) _ _ _); k_dflt (refine g_dflt (by assumption) (by k_asm) (by k_asm) ?N ?_; (case N => first | k_asm | exact News.tl (by k_asm) | exact News.tl (News.tl (by k_asm)) | exact News.tl (News.tl (News.tl (by k_asm))))); intro _)
  k_with "getAttr ref" => ((with_reducible show wpAny _ _ (getAttr (Value.ref _) (Str.ofString "text") _) _ _ _); k_dflt (refine g_text (by assumption) (by assumption) (by k_asm) (by k_asm) ?N ?_; (case N => first | k_asm | exact News.tl (by k_asm) | exact News.tl (News.tl (by k_asm)) | exact News.tl (News.tl (News.tl (by k_asm))))); intro _)
  k_with "getAttr ref" => ((with_reducible show wpAny _ _ (getAttr (Value.ref _) (Str.ofString "place") _) _ _ _); k_dflt (refine g_place (by assumption) (by assumption) (by k_asm) (by k_asm) ?N ?_; (case N => first | k_asm | exact News.tl (by k_asm) | exact News.tl (News.tl (by k_asm)) | exact News.tl (News.tl (News.tl (by k_asm))))); intro _)
  k_with "setAttr ref" => ((with_reducible show wpAny _ _ (setAttr (Value.ref _) (Str.ofString "chunk") _) _ _ _); (with_reducible rename LedR _ _ _ _ _ _ _ _ _ _ _ _ _ _ => hLo); k_dflt (refine s_chunk hLo (by k_asm) (by k_asm) ?N ?_; (case N => first | k_asm | exact News.tl (by k_asm) | exact News.tl (News.tl (by k_asm)) | exact News.tl (News.tl (News.tl (by k_asm))))); intro h' n' F' N' hL'; (try k_sweep); clear hLo)
  k_with "setAttr ref" => ((with_reducible show wpAny _ _ (setAttr (Value.ref _) (Str.ofString "chunk") (Value.str (Str.ofString "") _)) _ _ _); (with_reducible rename LedR _ _ _ _ _ _ _ _ _ _ _ _ _ _ => hLo); k_dflt (refine s_chunk0 hLo (by k_asm) (by k_asm) ?N ?_; (case N => first | k_asm | exact News.tl (by k_asm) | exact News.tl (News.tl (by k_asm)) | exact News.tl (News.tl (News.tl (by k_asm))))); intro h' n' F' N' hL'; (try k_sweep); clear hLo)
  k_with "setAttr ref" => ((with_reducible show wpAny _ _ (setAttr (Value.ref _) (Str.ofString "chunkSize") _) _ _ _); (with_reducible rename LedR _ _ _ _ _ _ _ _ _ _ _ _ _ _ => hLo); k_dflt (refine s_size hLo (by k_asm) (by k_asm) ?N ?_; (case N => first | k_asm | exact News.tl (by k_asm) | exact News.tl (News.tl (by k_asm)) | exact News.tl (News.tl (News.tl (by k_asm))))); intro h' n' F' N' hL'; (try k_sweep); clear hLo)
  k_with "setAttr ref" => ((with_reducible show wpAny _ _ (setAttr (Value.ref _) (Str.ofString "chunkOffset") _) _ _ _); (with_reducible rename LedR _ _ _ _ _ _ _ _ _ _ _ _ _ _ => hLo); k_dflt (refine s_off hLo (by k_asm) (by k_asm) ?N ?_; (case N => first | k_asm | exact News.tl (by k_asm) | exact News.tl (News.tl (by k_asm)) | exact News.tl (News.tl (News.tl (by k_asm))))); intro h' n' F' N' hL'; (try k_sweep); clear hLo)
  k_with "setAttr ref" => ((with_reducible show wpAny _ _ (setAttr (Value.ref _) (Str.ofString "prevNumLines") _) _ _ _); (with_reducible rename LedR _ _ _ _ _ _ _ _ _ _ _ _ _ _ => hLo); k_dflt (refine s_pl hLo (by k_asm) (by k_asm) ?N ?_; (case N => first | k_asm | exact News.tl (by k_asm) | exact News.tl (News.tl (by k_asm)) | exact News.tl (News.tl (News.tl (by k_asm))))); intro h' n' F' N' hL'; (try k_sweep); clear hLo)
  k_with "setAttr ref" => ((with_reducible show wpAny _ _ (setAttr (Value.ref _) (Str.ofString "prevNumCols") _) _ _ _); (with_reducible rename LedR _ _ _ _ _ _ _ _ _ _ _ _ _ _ => hLo); k_dflt (refine s_pc hLo (by k_asm) (by k_asm) ?N ?_; (case N => first | k_asm | exact News.tl (by k_asm) | exact News.tl (News.tl (by k_asm)) | exact News.tl (News.tl (News.tl (by k_asm))))); intro h' n' F' N' hL'; (try k_sweep); clear hLo)
  k_with "setAttr ref" => ((with_reducible show wpAny _ _ (setAttr (Value.ref _) (Str.ofString "_bufferedCharacter") _) _ _ _); (with_reducible rename LedR _ _ _ _ _ _ _ _ _ _ _ _ _ _ => hLo); k_dflt (refine s_buf (by first | exact BufIs.none | exact BufIs.some | assumption) hLo (by k_asm) (by k_asm) ?N ?_; (case N => first | k_asm | exact News.tl (by k_asm) | exact News.tl (News.tl (by k_asm)) | exact News.tl (News.tl (News.tl (by k_asm))))); intro h' n' F' N' hL'; (try k_sweep); clear hLo)
  k_with "setAttr ref" => ((with_reducible show wpAny _ _ (setAttr (Value.ref _) (Str.ofString "place") _) _ _ _); (with_reducible rename LedR _ _ _ _ _ _ _ _ _ _ _ _ _ _ => hLo); k_dflt (refine s_place hLo (by assumption) (by k_asm) (by k_asm) ?N ?_; (case N => first | k_asm | exact News.tl (by k_asm) | exact News.tl (News.tl (by k_asm)) | exact News.tl (News.tl (News.tl (by k_asm))))); intro h' n' F' N' hL'; (try k_sweep); clear hLo)
  k_with "getMethod ref" => ((with_reducible show wpAny _ _ (getMethod (Value.ref _) (Str.ofString "_position") _) _ _ _); k_dflt (refine m_pos_ (by assumption) (by k_asm) (by k_asm) ?N ?_; (case N => first | k_asm | exact News.tl (by k_asm) | exact News.tl (News.tl (by k_asm)) | exact News.tl (News.tl (News.tl (by k_asm))))))
  k_with "getMethod ref" => ((with_reducible show wpAny _ _ (getMethod (Value.ref _) (Str.ofString "position") _) _ _ _); k_dflt (refine m_pos (by assumption) (by k_asm) (by k_asm) ?N ?_; (case N => first | k_asm | exact News.tl (by k_asm) | exact News.tl (News.tl (by k_asm)) | exact News.tl (News.tl (News.tl (by k_asm))))))
  k_with "getMethod ref" => ((with_reducible show wpAny _ _ (getMethod (Value.ref _) (Str.ofString "char") _) _ _ _); k_dflt (refine m_char (by assumption) (by k_asm) (by k_asm) ?N ?_; (case N => first | k_asm | exact News.tl (by k_asm) | exact News.tl (News.tl (by k_asm)) | exact News.tl (News.tl (News.tl (by k_asm))))))
  k_with "getMethod ref" => ((with_reducible show wpAny _ _ (getMethod (Value.ref _) (Str.ofString "readChunk") _) _ _ _); k_dflt (refine m_chunk (by assumption) (by k_asm) (by k_asm) ?N ?_; (case N => first | k_asm | exact News.tl (by k_asm) | exact News.tl (News.tl (by k_asm)) | exact News.tl (News.tl (News.tl (by k_asm))))))
  k_with "getMethod ref" => ((with_reducible show wpAny _ _ (getMethod (Value.ref _) (Str.ofString "unget") _) _ _ _); k_dflt (refine m_unget (by assumption) (by k_asm) (by k_asm) ?N ?_; (case N => first | k_asm | exact News.tl (by k_asm) | exact News.tl (News.tl (by k_asm)) | exact News.tl (News.tl (News.tl (by k_asm))))))
  k_with "getMethod ref" => ((with_reducible show wpAny _ _ (getMethod (Value.ref _) (Str.ofString "charsUntil") _) _ _ _); k_dflt (refine m_until (by assumption) (by k_asm) (by k_asm) ?N ?_; (case N => first | k_asm | exact News.tl (by k_asm) | exact News.tl (News.tl (by k_asm)) | exact News.tl (News.tl (News.tl (by k_asm))))))
  k_with "getMethod ref" => ((with_reducible show wpAny _ _ (getMethod (Value.ref _) (Str.ofString "read") _) _ _ _); k_dflt (refine m_read (by assumption) (by assumption) (by k_asm) (by k_asm) ?N ?_; (case N => first | k_asm | exact News.tl (by k_asm) | exact News.tl (News.tl (by k_asm)) | exact News.tl (News.tl (News.tl (by k_asm))))))
  k_with "getMethod ref" => ((with_reducible show wpAny _ _ (getMethod (Value.ref _) (Str.ofString "reportCharacterErrors") _) _ _ _); k_dflt (refine m_rep (by assumption) (by k_asm) (by k_asm) ?N ?_; (case N => first | k_asm | exact News.tl (by k_asm) | exact News.tl (News.tl (by k_asm)) | exact News.tl (News.tl (News.tl (by k_asm))))); intro _ hR1)
  k_with "getMethod ref" => ((with_reducible show wpAny _ _ (getMethod (Value.ref _) (Str.ofString "append") _) _ _ _); k_dflt (refine m_append (by assumption) (by assumption) (by k_asm) (by k_asm) ?N ?_; (case N => first | k_asm | exact News.tl (by k_asm) | exact News.tl (News.tl (by k_asm)) | exact News.tl (News.tl (News.tl (by k_asm))))))
  k_with "call builtin:list.append" => ((with_reducible rename LedR _ _ _ _ _ _ _ _ _ _ _ _ _ _ => hLo); k_dflt (refine app_err hLo (by assumption) (by k_asm) (by k_asm) ?N (by lia) ?_; (case N => first | k_asm | exact News.tl (by k_asm) | exact News.tl (News.tl (by k_asm)) | exact News.tl (News.tl (News.tl (by k_asm))))); intro h' n' F' N' hL'; (try k_sweep); clear hLo)
  k_dflt (k_extra "enter")
  (rename Fr _ _ _ _ => F1)
  (with_unfolding_all change Fr _ _ _ (fun y => List.lookup y [(Str.ofString "size", Value.int (size : Int) t), (Str.ofString "self", Value.ref xT)]) at F1)
  k_steps
  exact hret _ _ _ _ ⟨⟨_, rfl⟩, by assumption⟩ (by assumption) (by assumption)
end
section
variable {w : World} {mean : ExcName → Option Value} {mg mb : Str → Option Value} {R : List Nat} {rest : List (Addr × Obj)} {ad : List Nat} {x xT : Nat} {ck : List Nat} {sz of : Int} {er : Nat} {pl pc : Int} {bf : Option Nat} {pla : Int} {news : List (Addr × Obj)}
set_option maxRecDepth 100000 in
set_option maxHeartbeats 8000000 in
theorem errs_spec (hL : LedR w R rest ad x ck sz of er pl pc bf pla news) (l : List Nat) (t : Tok) (hl : l.length ≤ 10000) (hE : er ≤ 100000) :
    Spec w mean mg mb 113 [.ref x, .str (S l) t] 15 90 news (fun v n => v = .none ∧ LedR w R rest ad x ck sz of (er + l.countP isInv) pl pc bf pla n) := by
  refine Spec.of ?_
  intro dp un gd cn cs a ccd cl outer A₀ base h₀ L m s Q E B F X N T hk hd hu hret
  k_with_none
  k_with "tb" => (first | assumption | (apply le3; assumption; exact rfl) | lia | (simp only [List.length_append, List.length_cons, List.length_nil, List.length_take, List.length_drop, List.length_dropLast, crs_len, partOf_len] at *; lia) | ((with_reducible refine Nat.le_trans (crlf_len _) ?_); tb_start) | ((with_reducible refine Nat.le_trans (split_len _) ?_); tb_start) | ((with_reducible refine Nat.le_trans (norm_len _) ?_); tb_start))
  k_with "call builtin:str.count" => (refine count4 (by decide +kernel) (by first | assumption | lia) ?_)
  k_with "call builtin:str.rfind" => (refine rfind4 (by decide +kernel) (by first | assumption | lia) ?_)
  k_with "call builtin:str.replace" => ((try dsimp only at *); k_dflt (refine repl_crlf_S (by decide +kernel) (by decide +kernel) (by k_ne) (by k_ne) (by k_ne) (by tb_start) ?_); intro _ _ _)
  k_with "call builtin:str.replace" => ((try dsimp only at *); k_dflt (refine repl_cr_S (by decide +kernel) (by decide +kernel) (by k_ne) (by k_ne) (by k_ne) (by tb_start) ?_); intro _ _ _)
  k_with "call builtin:len" => ((with_reducible show wpAny _ _ (call (Value.builtin "len") [Value.str (S _) _]) _ _ _); refine len_S (by tb_start) ?_)
  k_with "call builtin:ord" => ((with_reducible show wpAny _ _ (call (Value.builtin "ord") [Value.str (S _) _]) _ _ _); refine ord_S ?_)
  k_with "binaryOp Add str str" => ((with_reducible show wpAny _ _ (binaryOp Operator.Add (Value.str (S _) _) (Value.str (S _) _)) _ _ _); refine add_S (by tb_start) ?_; intro _ _)
  k_with "inplaceOp Add str str" => ((with_reducible show wpAny _ _ (inplaceOp Operator.Add (Value.str (S _) _) (Value.str (S _) _)) _ _ _); refine iadd_S (by tb_start) ?_; intro _ _)
  k_with "truthy str" => ((with_reducible show wpAny _ _ (truthy (Value.str (S _) _)) _ _ _); refine truthy_S (by tb_start) ?_)
  k_with "compareOp Eq str str" => ((with_reducible show wpAny _ _ (compareOp CmpOp.Eq (Value.str (S _) _) (Value.str (S _) _)) _ _ _); refine eq_S ?_)
  k_with "compareOp NotEq str str" => ((with_reducible show wpAny _ _ (compareOp CmpOp.NotEq (Value.str (S _) _) (Value.str (S _) _)) _ _ _); refine ne_S ?_)
  k_with "subscriptTail Name Slice str ref" => (k_here; (with_reducible rename Fr _ _ _ _ => F'); (with_reducible rename News _ _ _ _ => N'); k_dflt (refine drop_S (s := ⟨_, _, _, _, _⟩) F' N' (by tb_start) ?_); intro _ _ _ _ _; (try k_sweep))
  k_with "subscriptTail Name Slice str ref" => (k_here; (with_reducible rename Fr _ _ _ _ => F'); (with_reducible rename News _ _ _ _ => N'); k_dflt (refine take_S (s := ⟨_, _, _, _, _⟩) F' N' (by tb_start) ?_); intro _ _ _ _ _; (try k_sweep))
  k_with "subscriptTail Name Slice str ref" => (k_here; (with_reducible rename Fr _ _ _ _ => F'); (with_reducible rename News _ _ _ _ => N'); k_dflt (refine mid_S (s := ⟨_, _, _, _, _⟩) F' N' (by tb_start) ?_); intro _ _ _ _ _; (try k_sweep))
  k_with "subscriptTail Name Slice str ref" => (k_here; (with_reducible rename Fr _ _ _ _ => F'); (with_reducible rename News _ _ _ _ => N'); k_dflt (refine part_S (s := ⟨_, _, _, _, _⟩) F' N' (by tb_start) ?_); intro _ _ _ _ _; (try k_sweep))
  k_with "subscriptTail Name Slice str ref" => (k_here; (with_reducible rename Fr _ _ _ _ => F'); (with_reducible rename News _ _ _ _ => N'); k_dflt (refine init_S (s := ⟨_, _, _, _, _⟩) F' N' (by tb_start) ?_); intro _ _ _ _ _; (try k_sweep))
  k_with "subscriptTail Name UnaryOp str int" => (k_here; (with_reducible show wpAny _ _ (subscriptTail _ _ (Value.str (S _) _) (Value.int _ _)) _ _ _); k_dflt (first | (refine last_S (by first | assumption | (intro hz; simp only [hz, List.length_nil] at *; lia)) (by tb_start) ?_) | (refine item_S (by first | assumption | lia | k_extra "my item") (by tb_start) ?_)))
  k_with "subscriptTail Name Name str int" => (k_here; (with_reducible show wpAny _ _ (subscriptTail _ _ (Value.str (S _) _) (Value.int _ _)) _ _ _); first | (with_reducible refine item_S (by k_dflt (first | assumption | lia | k_extra "my item")) (by k_dflt tb_start) ?_) | k_dflt (refine item_Si (by lia) (by first | lia | k_extra "my item") (by tb_start) ?_))
  k_with "subscriptTail Name Constant str int" => (k_here; (with_reducible show wpAny _ _ (subscriptTail _ _ (Value.str (S _) _) (Value.int _ _)) _ _ _); first | (with_reducible refine item_S (by k_dflt (first | assumption | lia | k_extra "my item")) (by k_dflt tb_start) ?_) | k_dflt (refine item_Si (by lia) (by first | lia | k_extra "my item") (by tb_start) ?_))
  k_with "subscriptTail Name BinOp str int" => (k_here; (with_reducible show wpAny _ _ (subscriptTail _ _ (Value.str (S _) _) (Value.int _ _)) _ _ _); first | (with_reducible refine item_S (by k_dflt (first | assumption | lia | k_extra "my item")) (by k_dflt tb_start) ?_) | k_dflt (refine item_Si (by lia) (by first | lia | k_extra "my item") (by tb_start) ?_))
  k_with "subscriptTail Attribute Name str int" => (k_here; (with_reducible show wpAny _ _ (subscriptTail _ _ (Value.str (S _) _) (Value.int _ _)) _ _ _); first | (with_reducible refine item_S (by k_dflt (first | assumption | lia | k_extra "my item")) (by k_dflt tb_start) ?_) | k_dflt (refine item_Si (by lia) (by first | lia | k_extra "my item") (by tb_start) ?_))
  k_with "subscriptTail Attribute Constant str int" => (k_here; (with_reducible show wpAny _ _ (subscriptTail _ _ (Value.str (S _) _) (Value.int _ _)) _ _ _); first | (with_reducible refine item_S (by k_dflt (first | assumption | lia | k_extra "my item")) (by k_dflt tb_start) ?_) | k_dflt (refine item_Si (by lia) (by first | lia | k_extra "my item") (by tb_start) ?_))
  k_with "subscriptTail Attribute Attribute str int" => (k_here; (with_reducible show wpAny _ _ (subscriptTail _ _ (Value.str (S _) _) (Value.int _ _)) _ _ _); first | (with_reducible refine item_S (by k_dflt (first | assumption | lia | k_extra "my item")) (by k_dflt tb_start) ?_) | k_dflt (refine item_Si (by lia) (by first | lia | k_extra "my item") (by tb_start) ?_))
  k_with "truthy ref" => (k_here; k_dflt (refine' truthy_meth ?N ?q ?_; (case N => k_asm); (case q => k_mem); k_whole))
  k_with "exec For Name Name cons nil" => (k_here; (with_reducible rename Fr _ _ _ _ => lF'); k_dflt (refine' For_invVF lF' ?k1 ?k2 ?_; (case k1 => exact rfl); (case k2 => exact rfl); k_whole))
  k_with "exec For Name Subscript cons nil" => (k_here; (with_reducible rename Fr _ _ _ _ => lF'); k_dflt (refine' For_invVF lF' ?k1 ?k2 ?_; (case k1 => exact rfl); (case k2 => exact rfl); k_whole))
  k_with "all" => (refine List.forall_mem_append.mpr ⟨?a, ?b⟩; (case a => k_all); (case b => k_all))
  k_with "rel" => (simp only [List.size_toArray]; rw [PySem.sizeLine_eq]; lia)
  k_with "call builtin:list.append" => (k_here; (with_reducible show wpAny _ _ (call (Value.builtin _) [Value.ref _, _]) _ _ _); k_dflt (refine' append_K ?k1 ?k2 ?k3 ?_ ?z; (case k1 => k_asm); (case k2 => k_asm); (case k3 => k_upd); (case z => tb_rel); k_whole); intro h' F' N'; (try simp only [List.push_toArray] at N'); (try k_sweep))
  k_with "enter" => (refine' code_def ?k1 ?k2 ?k3 ?k4 ?k5 ?kA ?kF ?kK ?k6 ?k7 ?k8 ?k9 ?kB ?_ ?c2 ?c3 ?c4 ?c5; (case kA => exact rfl); (case kF => exact rfl); (case kK => assumption); (case k1 => k_asm); (case k2 => k_asm); (case k3 => k_asm); (case k4 => k_asm); (case k5 => k_asm); (case k6 => k_is); (case k7 => k_is); (case k8 => ktr_room); (case k9 => first | exact BindsTo.of_eq rfl | exact binds_K (by k_in) rfl (by k_is) rfl rfl rfl); (case c5 => decide); (case kB => exact locs rfl); (case c2 => exact rfl); (case c3 => exact rfl); (case c4 => exact rfl); k_whole; intro g' L' h' FG' F' N' B' X' T'; (try dsimp only); (try k_lift B'); (try k_fold))
  k_with "JoinP" => (dsimp only [JoinP])
  k_with "subscriptTail" => (k_here; (with_reducible show wpAny _ _ (subscriptTail _ _ (Value.str (S _) _) (Value.int _ _)) _ _ _); first | (with_reducible refine item_S (by k_dflt (first | assumption | lia | k_extra "my item")) (by k_dflt tb_start) ?_) | k_dflt (refine item_Si (by lia) (by first | lia | k_extra "my item") (by tb_start) ?_))
  k_with "compareOp Eq str str" => ((with_reducible show wpAny _ _ (compareOp CmpOp.Eq (Value.str (S _) _) (Value.str (Str.ofString _) _)) _ _ _); k_dflt (first | refine eq_lit [13] (by decide +kernel) ?_ | refine eq_lit [10] (by decide +kernel) ?_))
  k_with "compareOp NotEq str str" => ((with_reducible show wpAny _ _ (compareOp CmpOp.NotEq (Value.str (S _) _) (Value.str (Str.ofString _) _)) _ _ _); k_dflt (first | refine ne_lit [13] (by decide +kernel) ?_ | refine ne_lit [10] (by decide +kernel) ?_))
  k_with "inplaceOp Add str str" => ((with_reducible show wpAny _ _ (inplaceOp Operator.Add (Value.str (S _) _) (Value.str (Str.ofString _) _)) _ _ _); k_dflt (refine iadd_lit [10] (by decide +kernel) (by tb_start) ?_); intro _ _)
  k_with "room" => (k_dflt ((first | apply room4 | apply room3 | apply room2 | apply room1 | apply room0 | apply roomz); assumption; exact rfl))
  k_with "getAttr ref" => ((with_reducible show wpAny _ _ (getAttr (Value.ref _) (Str.ofString "chunk") _) _ _ _); k_dflt (refine g_chunk (by assumption) (by k_asm) (by k_asm) ?N ?_; (case N => first | k_asm | exact News.tl (by k_asm) | exact News.tl (News.tl (by k_asm)) | exact News.tl (News.tl (News.tl (by k_asm))))); intro _)
  k_with "getAttr ref" => ((with_reducible show wpAny _ _ (getAttr (Value.ref _) (Str.ofString "chunkSize") _) _ _ _); k_dflt (refine g_size (by assumption) (by k_asm) (by k_asm) ?N ?_; (case N => first | k_asm | exact News.tl (by k_asm) | exact News.tl (News.tl (by k_asm)) | exact News.tl (News.tl (News.tl (by k_asm))))); intro _)
  k_with "getAttr ref" => ((with_reducible show wpAny _ _ (getAttr (Value.ref _) (Str.ofString "chunkOffset") _) _ _ _); k_dflt (refine g_off (by assumption) (by k_asm) (by k_asm) ?N ?_; (case N => first | k_asm | exact News.tl (by k_asm) | exact News.tl (News.tl (by k_asm)) | exact News.tl (News.tl (News.tl (by k_asm))))); intro _)
  k_with "getAttr ref" => ((with_reducible show wpAny _ _ (getAttr (Value.ref _) (Str.ofString "prevNumLines") _) _ _ _); k_dflt (refine g_pl (by assumption) (by k_asm) (by k_asm) ?N ?_; (case N => first | k_asm | exact News.tl (by k_asm) | exact News.tl (News.tl (by k_asm)) | exact News.tl (News.tl (News.tl (by k_asm))))); intro _)
  k_with "getAttr ref" => ((with_reducible show wpAny _ _ (getAttr (Value.ref _) (Str.ofString "prevNumCols") _) _ _ _); k_dflt (refine g_pc (by assumption) (by k_asm) (by k_asm) ?N ?_; (case N => first | k_asm | exact News.tl (by k_asm) | exact News.tl (News.tl (by k_asm)) | exact News.tl (News.tl (News.tl (by k_asm))))); intro _)
  k_with "getAttr ref" => ((with_reducible show wpAny _ _ (getAttr (Value.ref _) (Str.ofString "errors") _) _ _ _); k_dflt (refine g_errors (by assumption) (by k_asm) (by k_asm) ?N ?_; (case N => first | k_asm | exact News.tl (by k_asm) | exact News.tl (News.tl (by k_asm)) | exact News.tl (News.tl (News.tl (by k_asm))))); intro _ hE1)
  k_with "getAttr ref" => ((with_reducible show wpAny _ _ (getAttr (Value.ref _) (Str.ofString "dataStream") _) _ _ _); k_dflt (refine g_stream (by assumption) (by k_asm) (by k_asm) ?N ?_; (case N => first | k_asm | exact News.tl (by k_asm) | exact News.tl (News.tl (by k_asm)) | exact News.tl (News.tl (News.tl (by k_asm))))); intro _ hT1)
  k_with "getAttr ref" => ((with_reducible show wpAny _ _ (getAttr (Value.ref _) (Str.ofString "_bufferedCharacter") _) _ _ _); k_dflt (refine g_buf (by assumption) (by k_asm) (by k_asm) ?N ?_; (case N => first | k_asm | exact News.tl (by k_asm) | exact News.tl (News.tl (by k_asm)) | exact News.tl (News.tl (News.tl (by k_asm))))); intro _ hB1; (try cases hB1))
  k_with "getAttr ref" => ((with_reducible show wpAny _ _ (getAttr (Value.ref _) (Str.ofString "reportCharacterErrors") _) _ _ _); k_dflt (refine g_rep (by assumption) (by k_asm) (by k_asm) ?N ?_; (case N => first | k_asm | exact News.tl (by k_asm) | exact News.tl (News.tl (by k_asm)) | exact News.tl (News.tl (News.tl (by k_asm))))); intro _ hR1)
  k_with "getAttr ref" => ((with_reducible show wpAny _ _ (getAttr (Value.ref _) (Str.ofString "_defaultChunkSize") _) _ _ _); k_dflt (refine g_dflt (by assumption) (by k_asm) (by k_asm) ?N ?_; (case N => first | k_asm | exact News.tl (by k_asm) | exact News.tl (News.tl (by k_asm)) | exact News.tl (News.tl (News.tl (by k_asm))))); intro _)
  k_with "getAttr ref" => ((with_reducible show wpAny _ _ (getAttr (Value.ref _) (Str.ofString "text") _) _ _ _); k_dflt (refine g_text (by assumption) (by assumption) (by k_asm) (by k_asm) ?N ?_; (case N => first | k_asm | exact News.tl (by k_asm) | exact News.tl (News.tl (by k_asm)) | exact News.tl (News.tl (News.tl (by k_asm))))); intro _)
  k_with "getAttr ref" => ((with_reducible show wpAny _ _ (getAttr (Value.ref _) (Str.ofString "place") _) _ _ _); k_dflt (refine g_place (by assumption) (by assumption) (by k_asm) (by k_asm) ?N ?_; (case N => first | k_asm | exact News.tl (by k_asm) | exact News.tl (News.tl (by k_asm)) | exact News.tl (News.tl (News.tl (by k_asm))))); intro _)
  k_with "setAttr ref" => ((with_reducible show wpAny _ _ (setAttr (Value.ref _) (Str.ofString "chunk") _) _ _ _); (with_reducible rename LedR _ _ _ _ _ _ _ _ _ _ _ _ _ _ => hLo); k_dflt (refine s_chunk hLo (by k_asm) (by k_asm) ?N ?_; (case N => first | k_asm | exact News.tl (by k_asm) | exact News.tl (News.tl (by k_asm)) | exact News.tl (News.tl (News.tl (by k_asm))))); intro h' n' F' N' hL'; (try k_sweep); clear hLo)
  k_with "setAttr ref" => ((with_reducible show wpAny _ _ (setAttr (Value.ref _) (Str.ofString "chunk") (Value.str (Str.ofString "") _)) _ _ _); (with_reducible rename LedR _ _ _ _ _ _ _ _ _ _ _ _ _ _ => hLo); k_dflt (refine s_chunk0 hLo (by k_asm) (by k_asm) ?N ?_; (case N => first | k_asm | exact News.tl (by k_asm) | exact News.tl (News.tl (by k_asm)) | exact News.tl (News.tl (News.tl (by k_asm))))); intro h' n' F' N' hL'; (try k_sweep); clear hLo)
  k_with "setAttr ref" => ((with_reducible show wpAny _ _ (setAttr (Value.ref _) (Str.ofString "chunkSize") _) _ _ _); (with_reducible rename LedR _ _ _ _ _ _ _ _ _ _ _ _ _ _ => hLo); k_dflt (refine s_size hLo (by k_asm) (by k_asm) ?N ?_; (case N => first | k_asm | exact News.tl (by k_asm) | exact News.tl (News.tl (by k_asm)) | exact News.tl (News.tl (News.tl (by k_asm))))); intro h' n' F' N' hL'; (try k_sweep); clear hLo)
  k_with "setAttr ref" => ((with_reducible show wpAny _ _ (setAttr (Value.ref _) (Str.ofString "chunkOffset") _) _ _ _); (with_reducible rename LedR _ _ _ _ _ _ _ _ _ _ _ _ _ _ => hLo); k_dflt (refine s_off hLo (by k_asm) (by k_asm) ?N ?_; (case N => first | k_asm | exact News.tl (by k_asm) | exact News.tl (News.tl (by k_asm)) | exact News.tl (News.tl (News.tl (by k_asm))))); intro h' n' F' N' hL'; (try k_sweep); clear hLo)
  k_with "setAttr ref" => ((with_reducible show wpAny _ _ (setAttr (Value.ref _) (Str.ofString "prevNumLines") _) _ _ _); (with_reducible rename LedR _ _ _ _ _ _ _ _ _ _ _ _ _ _ => hLo); k_dflt (refine s_pl hLo (by k_asm) (by k_asm) ?N ?_; (case N => first | k_asm | exact News.tl (by k_asm) | exact News.tl (News.tl (by k_asm)) | exact News.tl (News.tl (News.tl (by k_asm))))); intro h' n' F' N' hL'; (try k_sweep); clear hLo)
  k_with "setAttr ref" => ((with_reducible show wpAny _ _ (setAttr (Value.ref _) (Str.ofString "prevNumCols") _) _ _ _); (with_reducible rename LedR _ _ _ _ _ _ _ _ _ _ _ _ _ _ => hLo); k_dflt (refine s_pc hLo (by k_asm) (by k_asm) ?N ?_; (case N => first | k_asm | exact News.tl (by k_asm) | exact News.tl (News.tl (by k_asm)) | exact News.tl (News.tl (News.tl (by k_asm))))); intro h' n' F' N' hL'; (try k_sweep); clear hLo)
  k_with "setAttr ref" => ((with_reducible show wpAny _ _ (setAttr (Value.ref _) (Str.ofString "_bufferedCharacter") _) _ _ _); (with_reducible rename LedR _ _ _ _ _ _ _ _ _ _ _ _ _ _ => hLo); k_dflt (refine s_buf (by first | exact BufIs.none | exact BufIs.some | assumption) hLo (by k_asm) (by k_asm) ?N ?_; (case N => first | k_asm | exact News.tl (by k_asm) | exact News.tl (News.tl (by k_asm)) | exact News.tl (News.tl (News.tl (by k_asm))))); intro h' n' F' N' hL'; (try k_sweep); clear hLo)
  k_with "setAttr ref" => ((with_reducible show wpAny _ _ (setAttr (Value.ref _) (Str.ofString "place") _) _ _ _); (with_reducible rename LedR _ _ _ _ _ _ _ _ _ _ _ _ _ _ => hLo); k_dflt (refine s_place hLo (by assumption) (by k_asm) (by k_asm) ?N ?_; (case N => first | k_asm | exact News.tl (by k_asm) | exact News.tl (News.tl (by k_asm)) | exact News.tl (News.tl (News.tl (by k_asm))))); intro h' n' F' N' hL'; (try k_sweep); clear hLo)
  k_with "getMethod ref" => ((with_reducible show wpAny _ _ (getMethod (Value.ref _) (Str.ofString "_position") _) _ _ _); k_dflt (refine m_pos_ (by assumption) (by k_asm) (by k_asm) ?N ?_; (case N => first | k_asm | exact News.tl (by k_asm) | exact News.tl (News.tl (by k_asm)) | exact News.tl (News.tl (News.tl (by k_asm))))))
  k_with "getMethod ref" => ((with_reducible show wpAny _ _ (getMethod (Value.ref _) (Str.ofString "position") _) _ _ _); k_dflt (refine m_pos (by assumption) (by k_asm) (by k_asm) ?N ?_; (case N => first | k_asm | exact News.tl (by k_asm) | exact News.tl (News.tl (by k_asm)) | exact News.tl (News.tl (News.tl (by k_asm))))))
  k_with "getMethod ref" => ((with_reducible show wpAny _ _ (getMethod (Value.ref _) (Str.ofString "char") _) _ _ _); k_dflt (refine m_char (by assumption) (by k_asm) (by k_asm) ?N ?_; (case N => first | k_asm | exact News.tl (by k_asm) | exact News.tl (News.tl (by k_asm)) | exact News.tl (News.tl (News.tl (by k_asm))))))
  k_with "getMethod ref" => ((with_reducible show wpAny _ _ (getMethod (Value.ref _) (Str.ofString "readChunk") _) _ _ _); k_dflt (refine m_chunk (by assumption) (by k_asm) (by k_asm) ?N ?_; (case N => first | k_asm | exact News.tl (by k_asm) | exact News.tl (News.tl (by k_asm)) | exact News.tl (News.tl (News.tl (by k_asm))))))
  k_with "getMethod ref" => ((with_reducible show wpAny _ _ (getMethod (Value.ref _) (Str.ofString "unget") _) _ _ _); k_dflt (refine m_unget (by assumption) (by k_asm) (by k_asm) ?N ?_; (case N => first | k_asm | exact News.tl (by k_asm) | exact News.tl (News.tl (by k_asm)) | exact News.tl (News.tl (News.tl (by k_asm))))))
  k_with "getMethod ref" => ((with_reducible show wpAny _ _ (getMethod (Value.ref _) (Str.ofString "charsUntil") _) _ _ _); k_dflt (refine m_until (by assumption) (by k_asm) (by k_asm) ?N ?_; (case N => first | k_asm | exact News.tl (by k_asm) | exact News.tl (News.tl (by k_asm)) | exact News.tl (News.tl (News.tl (by k_asm))))))
  k_with "getMethod ref" => ((with_reducible show wpAny _ _ (getMethod (Value.ref _) (Str.ofString "read") _) _ _ _); k_dflt (refine m_read (by assumption) (by assumption) (by k_asm) (by k_asm) ?N ?_; (case N => first | k_asm | exact News.tl (by k_asm) | exact News.tl (News.tl (by k_asm)) | exact News.tl (News.tl (News.tl (by k_asm))))))
  k_with "getMethod ref" => ((with_reducible show wpAny _ _ (getMethod (Value.ref _) (Str.ofString "reportCharacterErrors") _) _ _ _); k_dflt (refine m_rep (by assumption) (by k_asm) (by k_asm) ?N ?_; (case N => first | k_asm | exact News.tl (by k_asm) | exact News.tl (News.tl (by k_asm)) | exact News.tl (News.tl (News.tl (by k_asm))))); intro _ hR1)
  k_with "getMethod ref" => ((with_reducible show wpAny _ _ (getMethod (Value.ref _) (Str.ofString "append") _) _ _ _); k_dflt (refine m_append (by assumption) (by assumption) (by k_asm) (by k_asm) ?N ?_; (case N => first | k_asm | exact News.tl (by k_asm) | exact News.tl (News.tl (by k_asm)) | exact News.tl (News.tl (News.tl (by k_asm))))))
  k_with "call builtin:list.append" => ((with_reducible rename LedR _ _ _ _ _ _ _ _ _ _ _ _ _ _ => hLo); k_dflt (refine app_err hLo (by assumption) (by k_asm) (by k_asm) ?N (by lia) ?_; (case N => first | k_asm | exact News.tl (by k_asm) | exact News.tl (News.tl (by k_asm)) | exact News.tl (News.tl (News.tl (by k_asm))))); intro h' n' F' N' hL'; (try k_sweep); clear hLo)
  k_with "call ref" => ((with_reducible show wpAny _ _ (call (Value.ref 49) _) _ _ _); k_dflt ((refine' Spec.useK (inv_spec _ _ _) ?B ?F ?X ?N ?T ?hk ?hd ?hu ?_); (case B => k_asm); (case F => k_asm); (case X => k_asm); (case T => k_asm); (case hk => first | exact rfl | assumption); (case N => first | k_asm | exact News.tl (by k_asm) | exact News.tl (News.tl (by k_asm)) | exact News.tl (News.tl (News.tl (by k_asm)))); (case hd => ktr_room); (case hu => ktr_units); intro h' tk' hle' F' N'; (try dsimp only); (try k_fold)))
  k_dflt (k_extra "enter")
  (rename Fr _ _ _ _ => F1)
  (with_unfolding_all change Fr _ _ _ (fun y => List.lookup y [(Str.ofString "data", Value.str (S l) t), (Str.ofString "self", Value.ref x)]) at F1)
  k_steps
  (rename Fr _ _ _ _ => lF')
  (rename News _ _ _ _ => lN')
  k_dflt (refine loop_Sm (fun m₀ i m' nx => LedR w R rest ad x ck sz of (er + (l.take i).countP isInv) pl pc bf pla nx ∧ ∃ u : Option Value, m' = fun z => if z = Str.ofString "c" then u else m₀ z) (by rfl) lF' lN' ⟨hL, mix1 _ _⟩ ?_ ?_)
  · clear lF' lN'
    intro i c t' m₁ n₁ h tk own hi hadr hoff hJ F' N'
    obtain ⟨hL', u, rfl⟩ := hJ
    have ha := hL.addr
    have hL2 := hL'.app (own := own) (fun p hp b hb => hoff p hp b (by rw [ha]; exact List.mem_append.mpr (.inl hb)))
    clear hL'
    obtain ⟨n₂, hn₂⟩ : ∃ n₂, n₁ ++ own = n₂ := ⟨_, rfl⟩
    rw [hn₂] at hL2 N'
    clear hn₂ hoff hadr
    have hcp := List.countP_le_length (p := isInv) (l := l.take i)
    rw [List.length_take] at hcp
    have hcs : List.countP isInv (List.take (i + 1) l) = List.countP isInv (List.take i l) + if isInv c then 1 else 0 := by
      rw [List.take_add_one, hi, List.countP_append]
      simp
    (try k_fold)
    k_steps
    · rw [if_pos (by assumption)] at hcs
      refine led_end (by assumption) (by assumption) (by assumption) ha.symm (fun nx hx => ⟨by rw [hcs]; exact hx, some (.str (S [c]) t'), ?_⟩)
      exact cut_if
    · rw [if_neg (by simp only [Bool.not_eq_true]; assumption)] at hcs
      refine led_end (by assumption) (by assumption) (by assumption) ha.symm (fun nx hx => ⟨by rw [hcs]; exact hx, some (.str (S [c]) t'), ?_⟩)
      exact cut_if
  · clear lF' lN'
    intro m₁ n₁ h tk hJ F' N'
    obtain ⟨hL', u, rfl⟩ := hJ
    rw [List.take_length] at hL'
    (try dsimp only)
    (try k_fold)
    k_steps
    all_goals exact hret _ _ _ _ ⟨rfl, hL'⟩ (by assumption) (by assumption)
end
theorem off_a {d lv : Str} {a b c : Option Value} {f : Str → Option Value} : ∀ y, y ≠ lv → (fun y => if y = d then a else if y = lv then b else if y = d then c else f y) y = if y = d then a else f y := fun y h => by
  by_cases hd : y = d
  · simp only [hd, if_true]
  · simp only [hd, h, if_false]
theorem off_b {d lv : Str} {a b : Option Value} {f : Str → Option Value} : ∀ y, y ≠ lv → (fun y => if y = lv then b else if y = d then a else f y) y = if y = d then a else f y := fun y h => if_neg h
theorem look_if {c : Str} {v : Value} {l : List (Str × Value)} : (fun y => List.lookup y ((c, v) :: l)) = fun y => if y = c then some v else List.lookup y ((c, v) :: l) := by
  funext y
  by_cases h : y = c
  · rw [if_pos h, h]; simp [List.lookup]
  · rw [if_neg h]
section
variable {w : World} {mean : ExcName → Option Value} {mg mb : Str → Option Value} {R : List Nat} {rest : List (Addr × Obj)} {ad : List Nat} {x : Nat} {st : St} {news : List (Addr × Obj)}
set_option maxRecDepth 100000 in
set_option maxHeartbeats 8000000 in
theorem chunk_gen (hL : LedIs w R rest ad x st news) (size : Nat) (t : Tok) (vs : List Value) (v : Value) (hv : (vs = [.ref x, .int (size : Int) t] ∧ v = .int (size : Int) t) ∨ (vs = [.ref x] ∧ v = .none ∧ size = 10240))
    (hR : R.length ≤ 1000) (hp : st.place ≤ 1000) (hc : st.chunk.length ≤ 10000) (he : st.errs ≤ 100000) (hsz : size ≤ 100000) :
    Spec w mean mg mb 106 vs 40 300 news (fun v n => v = .bool (decide (st.data R size ≠ [])) ∧ LedIs w R rest ad x (st.fetch R size) n) := by
  refine Spec.of ?_
  intro dp un gd cn cs a ccd cl outer A₀ base h₀ L m s Q E B F X N T hk hd hu hret
  obtain ⟨ck, of, er, pl, pc, bf, pla⟩ := st
  unfold LedIs at hL
  unfold St.fetch St.data St.pos at hret
  dsimp only at *
  have hbl : bf.toList.length ≤ 1 := by cases bf <;> simp
  have hv0 : Hid _ := hv
  clear hv
  have hPl := Nat.le_trans (partOf_le R size pla) hR
  obtain ⟨P, hP⟩ : ∃ P, partOf R size pla = P := ⟨_, rfl⟩
  obtain ⟨p, hpp⟩ : ∃ p, (ck.take ck.length).foldl adv (pl, pc) = p := ⟨_, rfl⟩
  rw [hP] at hPl
  rw [hP, hpp] at hret
  k_with_none
  k_with "tb" => (first | assumption | (apply le3; assumption; exact rfl) | lia | (simp only [List.length_append, List.length_cons, List.length_nil, List.length_take, List.length_drop, List.length_dropLast, crs_len, partOf_len] at *; lia) | ((with_reducible refine Nat.le_trans (crlf_len _) ?_); tb_start) | ((with_reducible refine Nat.le_trans (split_len _) ?_); tb_start) | ((with_reducible refine Nat.le_trans (norm_len _) ?_); tb_start))
  k_with "call builtin:str.count" => (refine count4 (by decide +kernel) (by first | assumption | lia) ?_)
  k_with "call builtin:str.rfind" => (refine rfind4 (by decide +kernel) (by first | assumption | lia) ?_)
  k_with "call builtin:str.replace" => ((try dsimp only at *); k_dflt (refine repl_crlf_S (by decide +kernel) (by decide +kernel) (by k_ne) (by k_ne) (by k_ne) (by tb_start) ?_); intro _ _ _)
  k_with "call builtin:str.replace" => ((try dsimp only at *); k_dflt (refine repl_cr_S (by decide +kernel) (by decide +kernel) (by k_ne) (by k_ne) (by k_ne) (by tb_start) ?_); intro _ _ _)
  k_with "call builtin:len" => ((with_reducible show wpAny _ _ (call (Value.builtin "len") [Value.str (S _) _]) _ _ _); refine len_S (by tb_start) ?_)
  k_with "call builtin:ord" => ((with_reducible show wpAny _ _ (call (Value.builtin "ord") [Value.str (S _) _]) _ _ _); refine ord_S ?_)
  k_with "binaryOp Add str str" => ((with_reducible show wpAny _ _ (binaryOp Operator.Add (Value.str (S _) _) (Value.str (S _) _)) _ _ _); refine add_S (by tb_start) ?_; intro _ _)
  k_with "inplaceOp Add str str" => ((with_reducible show wpAny _ _ (inplaceOp Operator.Add (Value.str (S _) _) (Value.str (S _) _)) _ _ _); refine iadd_S (by tb_start) ?_; intro _ _)
  k_with "truthy str" => ((with_reducible show wpAny _ _ (truthy (Value.str (S _) _)) _ _ _); refine truthy_S (by tb_start) ?_)
  k_with "compareOp Eq str str" => ((with_reducible show wpAny _ _ (compareOp CmpOp.Eq (Value.str (S _) _) (Value.str (S _) _)) _ _ _); refine eq_S ?_)
  k_with "compareOp NotEq str str" => ((with_reducible show wpAny _ _ (compareOp CmpOp.NotEq (Value.str (S _) _) (Value.str (S _) _)) _ _ _); refine ne_S ?_)
  k_with "subscriptTail Name Slice str ref" => (k_here; (with_reducible rename Fr _ _ _ _ => F'); (with_reducible rename News _ _ _ _ => N'); k_dflt (refine drop_S (s := ⟨_, _, _, _, _⟩) F' N' (by tb_start) ?_); intro _ _ _ _ _; (try k_sweep))
  k_with "subscriptTail Name Slice str ref" => (k_here; (with_reducible rename Fr _ _ _ _ => F'); (with_reducible rename News _ _ _ _ => N'); k_dflt (refine take_S (s := ⟨_, _, _, _, _⟩) F' N' (by tb_start) ?_); intro _ _ _ _ _; (try k_sweep))
  k_with "subscriptTail Name Slice str ref" => (k_here; (with_reducible rename Fr _ _ _ _ => F'); (with_reducible rename News _ _ _ _ => N'); k_dflt (refine mid_S (s := ⟨_, _, _, _, _⟩) F' N' (by tb_start) ?_); intro _ _ _ _ _; (try k_sweep))
  k_with "subscriptTail Name Slice str ref" => (k_here; (with_reducible rename Fr _ _ _ _ => F'); (with_reducible rename News _ _ _ _ => N'); k_dflt (refine part_S (s := ⟨_, _, _, _, _⟩) F' N' (by tb_start) ?_); intro _ _ _ _ _; (try k_sweep))
  k_with "subscriptTail Name Slice str ref" => (k_here; (with_reducible rename Fr _ _ _ _ => F'); (with_reducible rename News _ _ _ _ => N'); k_dflt (refine init_S (s := ⟨_, _, _, _, _⟩) F' N' (by tb_start) ?_); intro _ _ _ _ _; (try k_sweep))
  k_with "subscriptTail Name UnaryOp str int" => (k_here; (with_reducible show wpAny _ _ (subscriptTail _ _ (Value.str (S _) _) (Value.int _ _)) _ _ _); k_dflt (first | (refine last_S (by first | assumption | (intro hz; simp only [hz, List.length_nil] at *; lia)) (by tb_start) ?_) | (refine item_S (by first | assumption | lia | k_extra "my item") (by tb_start) ?_)))
  k_with "subscriptTail Name Name str int" => (k_here; (with_reducible show wpAny _ _ (subscriptTail _ _ (Value.str (S _) _) (Value.int _ _)) _ _ _); first | (with_reducible refine item_S (by k_dflt (first | assumption | lia | k_extra "my item")) (by k_dflt tb_start) ?_) | k_dflt (refine item_Si (by lia) (by first | lia | k_extra "my item") (by tb_start) ?_))
  k_with "subscriptTail Name Constant str int" => (k_here; (with_reducible show wpAny _ _ (subscriptTail _ _ (Value.str (S _) _) (Value.int _ _)) _ _ _); first | (with_reducible refine item_S (by k_dflt (first | assumption | lia | k_extra "my item")) (by k_dflt tb_start) ?_) | k_dflt (refine item_Si (by lia) (by first | lia | k_extra "my item") (by tb_start) ?_))
  k_with "subscriptTail Name BinOp str int" => (k_here; (with_reducible show wpAny _ _ (subscriptTail _ _ (Value.str (S _) _) (Value.int _ _)) _ _ _); first | (with_reducible refine item_S (by k_dflt (first | assumption | lia | k_extra "my item")) (by k_dflt tb_start) ?_) | k_dflt (refine item_Si (by lia) (by first | lia | k_extra "my item") (by tb_start) ?_))
  k_with "subscriptTail Attribute Name str int" => (k_here; (with_reducible show wpAny _ _ (subscriptTail _ _ (Value.str (S _) _) (Value.int _ _)) _ _ _); first | (with_reducible refine item_S (by k_dflt (first | assumption | lia | k_extra "my item")) (by k_dflt tb_start) ?_) | k_dflt (refine item_Si (by lia) (by first | lia | k_extra "my item") (by tb_start) ?_))
  k_with "subscriptTail Attribute Constant str int" => (k_here; (with_reducible show wpAny _ _ (subscriptTail _ _ (Value.str (S _) _) (Value.int _ _)) _ _ _); first | (with_reducible refine item_S (by k_dflt (first | assumption | lia | k_extra "my item")) (by k_dflt tb_start) ?_) | k_dflt (refine item_Si (by lia) (by first | lia | k_extra "my item") (by tb_start) ?_))
  k_with "subscriptTail Attribute Attribute str int" => (k_here; (with_reducible show wpAny _ _ (subscriptTail _ _ (Value.str (S _) _) (Value.int _ _)) _ _ _); first | (with_reducible refine item_S (by k_dflt (first | assumption | lia | k_extra "my item")) (by k_dflt tb_start) ?_) | k_dflt (refine item_Si (by lia) (by first | lia | k_extra "my item") (by tb_start) ?_))
  k_with "truthy ref" => (k_here; k_dflt (refine' truthy_meth ?N ?q ?_; (case N => k_asm); (case q => k_mem); k_whole))
  k_with "exec For Name Name cons nil" => (k_here; (with_reducible rename Fr _ _ _ _ => lF'); k_dflt (refine' For_invVF lF' ?k1 ?k2 ?_; (case k1 => exact rfl); (case k2 => exact rfl); k_whole))
  k_with "exec For Name Subscript cons nil" => (k_here; (with_reducible rename Fr _ _ _ _ => lF'); k_dflt (refine' For_invVF lF' ?k1 ?k2 ?_; (case k1 => exact rfl); (case k2 => exact rfl); k_whole))
  k_with "all" => (refine List.forall_mem_append.mpr ⟨?a, ?b⟩; (case a => k_all); (case b => k_all))
  k_with "rel" => (simp only [List.size_toArray]; rw [PySem.sizeLine_eq]; lia)
  k_with "call builtin:list.append" => (k_here; (with_reducible show wpAny _ _ (call (Value.builtin _) [Value.ref _, _]) _ _ _); k_dflt (refine' append_K ?k1 ?k2 ?k3 ?_ ?z; (case k1 => k_asm); (case k2 => k_asm); (case k3 => k_upd); (case z => tb_rel); k_whole); intro h' F' N'; (try simp only [List.push_toArray] at N'); (try k_sweep))
  k_with "enter" => (refine' code_def ?k1 ?k2 ?k3 ?k4 ?k5 ?kA ?kF ?kK ?k6 ?k7 ?k8 ?k9 ?kB ?_ ?c2 ?c3 ?c4 ?c5; (case kA => exact rfl); (case kF => exact rfl); (case kK => assumption); (case k1 => k_asm); (case k2 => k_asm); (case k3 => k_asm); (case k4 => k_asm); (case k5 => k_asm); (case k6 => k_is); (case k7 => k_is); (case k8 => ktr_room); (case k9 => first | exact BindsTo.of_eq rfl | exact binds_K (by k_in) rfl (by k_is) rfl rfl rfl); (case c5 => decide); (case kB => exact locs rfl); (case c2 => exact rfl); (case c3 => exact rfl); (case c4 => exact rfl); k_whole; intro g' L' h' FG' F' N' B' X' T'; (try dsimp only); (try k_lift B'); (try k_fold))
  k_with "JoinP" => (dsimp only [JoinP])
  k_with "subscriptTail" => (k_here; (with_reducible show wpAny _ _ (subscriptTail _ _ (Value.str (S _) _) (Value.int _ _)) _ _ _); first | (with_reducible refine item_S (by k_dflt (first | assumption | lia | k_extra "my item")) (by k_dflt tb_start) ?_) | k_dflt (refine item_Si (by lia) (by first | lia | k_extra "my item") (by tb_start) ?_))
  k_with "compareOp Eq str str" => ((with_reducible show wpAny _ _ (compareOp CmpOp.Eq (Value.str (S _) _) (Value.str (Str.ofString _) _)) _ _ _); k_dflt (first | refine eq_lit [13] (by decide +kernel) ?_ | refine eq_lit [10] (by decide +kernel) ?_))
  k_with "compareOp NotEq str str" => ((with_reducible show wpAny _ _ (compareOp CmpOp.NotEq (Value.str (S _) _) (Value.str (Str.ofString _) _)) _ _ _); k_dflt (first | refine ne_lit [13] (by decide +kernel) ?_ | refine ne_lit [10] (by decide +kernel) ?_))
  k_with "inplaceOp Add str str" => ((with_reducible show wpAny _ _ (inplaceOp Operator.Add (Value.str (S _) _) (Value.str (Str.ofString _) _)) _ _ _); k_dflt (refine iadd_lit [10] (by decide +kernel) (by tb_start) ?_); intro _ _)
  k_with "room" => (k_dflt ((first | apply room4 | apply room3 | apply room2 | apply room1 | apply room0 | apply roomz); assumption; exact rfl))
  k_with "execs cons" => (k_here; (fail_if_success (fail_if_success k_gentoks)); (refine gen_toks (by (dsimp only); lia) ?_); intro tk htk; (try dsimp only))
  k_with "execs nil" => (k_here; (fail_if_success (fail_if_success k_gentoks)); (refine gen_toks (by (dsimp only); lia) ?_); intro tk htk; (try dsimp only))
  k_with "getAttr ref" => ((with_reducible show wpAny _ _ (getAttr (Value.ref _) (Str.ofString "chunk") _) _ _ _); k_dflt (refine g_chunk (by assumption) (by k_asm) (by k_asm) ?N ?_; (case N => first | k_asm | exact News.tl (by k_asm) | exact News.tl (News.tl (by k_asm)) | exact News.tl (News.tl (News.tl (by k_asm))))); intro _)
  k_with "getAttr ref" => ((with_reducible show wpAny _ _ (getAttr (Value.ref _) (Str.ofString "chunkSize") _) _ _ _); k_dflt (refine g_size (by assumption) (by k_asm) (by k_asm) ?N ?_; (case N => first | k_asm | exact News.tl (by k_asm) | exact News.tl (News.tl (by k_asm)) | exact News.tl (News.tl (News.tl (by k_asm))))); intro _)
  k_with "getAttr ref" => ((with_reducible show wpAny _ _ (getAttr (Value.ref _) (Str.ofString "chunkOffset") _) _ _ _); k_dflt (refine g_off (by assumption) (by k_asm) (by k_asm) ?N ?_; (case N => first | k_asm | exact News.tl (by k_asm) | exact News.tl (News.tl (by k_asm)) | exact News.tl (News.tl (News.tl (by k_asm))))); intro _)
  k_with "getAttr ref" => ((with_reducible show wpAny _ _ (getAttr (Value.ref _) (Str.ofString "prevNumLines") _) _ _ _); k_dflt (refine g_pl (by assumption) (by k_asm) (by k_asm) ?N ?_; (case N => first | k_asm | exact News.tl (by k_asm) | exact News.tl (News.tl (by k_asm)) | exact News.tl (News.tl (News.tl (by k_asm))))); intro _)
  k_with "getAttr ref" => ((with_reducible show wpAny _ _ (getAttr (Value.ref _) (Str.ofString "prevNumCols") _) _ _ _); k_dflt (refine g_pc (by assumption) (by k_asm) (by k_asm) ?N ?_; (case N => first | k_asm | exact News.tl (by k_asm) | exact News.tl (News.tl (by k_asm)) | exact News.tl (News.tl (News.tl (by k_asm))))); intro _)
  k_with "getAttr ref" => ((with_reducible show wpAny _ _ (getAttr (Value.ref _) (Str.ofString "errors") _) _ _ _); k_dflt (refine g_errors (by assumption) (by k_asm) (by k_asm) ?N ?_; (case N => first | k_asm | exact News.tl (by k_asm) | exact News.tl (News.tl (by k_asm)) | exact News.tl (News.tl (News.tl (by k_asm))))); intro _ hE1)
  k_with "getAttr ref" => ((with_reducible show wpAny _ _ (getAttr (Value.ref _) (Str.ofString "dataStream") _) _ _ _); k_dflt (refine g_stream (by assumption) (by k_asm) (by k_asm) ?N ?_; (case N => first | k_asm | exact News.tl (by k_asm) | exact News.tl (News.tl (by k_asm)) | exact News.tl (News.tl (News.tl (by k_asm))))); intro _ hT1)
  k_with "getAttr ref" => ((with_reducible show wpAny _ _ (getAttr (Value.ref _) (Str.ofString "_bufferedCharacter") _) _ _ _); k_dflt (refine g_buf (by assumption) (by k_asm) (by k_asm) ?N ?_; (case N => first | k_asm | exact News.tl (by k_asm) | exact News.tl (News.tl (by k_asm)) | exact News.tl (News.tl (News.tl (by k_asm))))); intro _ hB1; (try cases hB1))
  k_with "getAttr ref" => ((with_reducible show wpAny _ _ (getAttr (Value.ref _) (Str.ofString "reportCharacterErrors") _) _ _ _); k_dflt (refine g_rep (by assumption) (by k_asm) (by k_asm) ?N ?_; (case N => first | k_asm | exact News.tl (by k_asm) | exact News.tl (News.tl (by k_asm)) | exact News.tl (News.tl (News.tl (by k_asm))))); intro _ hR1)
  k_with "getAttr ref" => ((with_reducible show wpAny _ _ (getAttr (Value.ref _) (Str.ofString "_defaultChunkSize") _) _ _ _); k_dflt (refine g_dflt (by assumption) (by k_asm) (by k_asm) ?N ?_; (case N => first | k_asm | exact News.tl (by k_asm) | exact News.tl (News.tl (by k_asm)) | exact News.tl (News.tl (News.tl (by k_asm))))); intro _)
  k_with "getAttr ref" => ((with_reducible show wpAny _ _ (getAttr (Value.ref _) (Str.ofString "text") _) _ _ _); k_dflt (refine g_text (by assumption) (by assumption) (by k_asm) (by k_asm) ?N ?_; (case N => first | k_asm | exact News.tl (by k_asm) | exact News.tl (News.tl (by k_asm)) | exact News.tl (News.tl (News.tl (by k_asm))))); intro _)
  k_with "getAttr ref" => ((with_reducible show wpAny _ _ (getAttr (Value.ref _) (Str.ofString "place") _) _ _ _); k_dflt (refine g_place (by assumption) (by assumption) (by k_asm) (by k_asm) ?N ?_; (case N => first | k_asm | exact News.tl (by k_asm) | exact News.tl (News.tl (by k_asm)) | exact News.tl (News.tl (News.tl (by k_asm))))); intro _)
  k_with "setAttr ref" => ((with_reducible show wpAny _ _ (setAttr (Value.ref _) (Str.ofString "chunk") _) _ _ _); (with_reducible rename LedR _ _ _ _ _ _ _ _ _ _ _ _ _ _ => hLo); k_dflt (refine s_chunk hLo (by k_asm) (by k_asm) ?N ?_; (case N => first | k_asm | exact News.tl (by k_asm) | exact News.tl (News.tl (by k_asm)) | exact News.tl (News.tl (News.tl (by k_asm))))); intro h' n' F' N' hL'; (try k_sweep); clear hLo)
  k_with "setAttr ref" => ((with_reducible show wpAny _ _ (setAttr (Value.ref _) (Str.ofString "chunk") (Value.str (Str.ofString "") _)) _ _ _); (with_reducible rename LedR _ _ _ _ _ _ _ _ _ _ _ _ _ _ => hLo); k_dflt (refine s_chunk0 hLo (by k_asm) (by k_asm) ?N ?_; (case N => first | k_asm | exact News.tl (by k_asm) | exact News.tl (News.tl (by k_asm)) | exact News.tl (News.tl (News.tl (by k_asm))))); intro h' n' F' N' hL'; (try k_sweep); clear hLo)
  k_with "setAttr ref" => ((with_reducible show wpAny _ _ (setAttr (Value.ref _) (Str.ofString "chunkSize") _) _ _ _); (with_reducible rename LedR _ _ _ _ _ _ _ _ _ _ _ _ _ _ => hLo); k_dflt (refine s_size hLo (by k_asm) (by k_asm) ?N ?_; (case N => first | k_asm | exact News.tl (by k_asm) | exact News.tl (News.tl (by k_asm)) | exact News.tl (News.tl (News.tl (by k_asm))))); intro h' n' F' N' hL'; (try k_sweep); clear hLo)
  k_with "setAttr ref" => ((with_reducible show wpAny _ _ (setAttr (Value.ref _) (Str.ofString "chunkOffset") _) _ _ _); (with_reducible rename LedR _ _ _ _ _ _ _ _ _ _ _ _ _ _ => hLo); k_dflt (refine s_off hLo (by k_asm) (by k_asm) ?N ?_; (case N => first | k_asm | exact News.tl (by k_asm) | exact News.tl (News.tl (by k_asm)) | exact News.tl (News.tl (News.tl (by k_asm))))); intro h' n' F' N' hL'; (try k_sweep); clear hLo)
  k_with "setAttr ref" => ((with_reducible show wpAny _ _ (setAttr (Value.ref _) (Str.ofString "prevNumLines") _) _ _ _); (with_reducible rename LedR _ _ _ _ _ _ _ _ _ _ _ _ _ _ => hLo); k_dflt (refine s_pl hLo (by k_asm) (by k_asm) ?N ?_; (case N => first | k_asm | exact News.tl (by k_asm) | exact News.tl (News.tl (by k_asm)) | exact News.tl (News.tl (News.tl (by k_asm))))); intro h' n' F' N' hL'; (try k_sweep); clear hLo)
  k_with "setAttr ref" => ((with_reducible show wpAny _ _ (setAttr (Value.ref _) (Str.ofString "prevNumCols") _) _ _ _); (with_reducible rename LedR _ _ _ _ _ _ _ _ _ _ _ _ _ _ => hLo); k_dflt (refine s_pc hLo (by k_asm) (by k_asm) ?N ?_; (case N => first | k_asm | exact News.tl (by k_asm) | exact News.tl (News.tl (by k_asm)) | exact News.tl (News.tl (News.tl (by k_asm))))); intro h' n' F' N' hL'; (try k_sweep); clear hLo)
  k_with "setAttr ref" => ((with_reducible show wpAny _ _ (setAttr (Value.ref _) (Str.ofString "_bufferedCharacter") _) _ _ _); (with_reducible rename LedR _ _ _ _ _ _ _ _ _ _ _ _ _ _ => hLo); k_dflt (refine s_buf (by first | exact BufIs.none | exact BufIs.some | assumption) hLo (by k_asm) (by k_asm) ?N ?_; (case N => first | k_asm | exact News.tl (by k_asm) | exact News.tl (News.tl (by k_asm)) | exact News.tl (News.tl (News.tl (by k_asm))))); intro h' n' F' N' hL'; (try k_sweep); clear hLo)
  k_with "setAttr ref" => ((with_reducible show wpAny _ _ (setAttr (Value.ref _) (Str.ofString "place") _) _ _ _); (with_reducible rename LedR _ _ _ _ _ _ _ _ _ _ _ _ _ _ => hLo); k_dflt (refine s_place hLo (by assumption) (by k_asm) (by k_asm) ?N ?_; (case N => first | k_asm | exact News.tl (by k_asm) | exact News.tl (News.tl (by k_asm)) | exact News.tl (News.tl (News.tl (by k_asm))))); intro h' n' F' N' hL'; (try k_sweep); clear hLo)
  k_with "getMethod ref" => ((with_reducible show wpAny _ _ (getMethod (Value.ref _) (Str.ofString "_position") _) _ _ _); k_dflt (refine m_pos_ (by assumption) (by k_asm) (by k_asm) ?N ?_; (case N => first | k_asm | exact News.tl (by k_asm) | exact News.tl (News.tl (by k_asm)) | exact News.tl (News.tl (News.tl (by k_asm))))))
  k_with "getMethod ref" => ((with_reducible show wpAny _ _ (getMethod (Value.ref _) (Str.ofString "position") _) _ _ _); k_dflt (refine m_pos (by assumption) (by k_asm) (by k_asm) ?N ?_; (case N => first | k_asm | exact News.tl (by k_asm) | exact News.tl (News.tl (by k_asm)) | exact News.tl (News.tl (News.tl (by k_asm))))))
  k_with "getMethod ref" => ((with_reducible show wpAny _ _ (getMethod (Value.ref _) (Str.ofString "char") _) _ _ _); k_dflt (refine m_char (by assumption) (by k_asm) (by k_asm) ?N ?_; (case N => first | k_asm | exact News.tl (by k_asm) | exact News.tl (News.tl (by k_asm)) | exact News.tl (News.tl (News.tl (by k_asm))))))
  k_with "getMethod ref" => ((with_reducible show wpAny _ _ (getMethod (Value.ref _) (Str.ofString "readChunk") _) _ _ _); k_dflt (refine m_chunk (by assumption) (by k_asm) (by k_asm) ?N ?_; (case N => first | k_asm | exact News.tl (by k_asm) | exact News.tl (News.tl (by k_asm)) | exact News.tl (News.tl (News.tl (by k_asm))))))
  k_with "getMethod ref" => ((with_reducible show wpAny _ _ (getMethod (Value.ref _) (Str.ofString "unget") _) _ _ _); k_dflt (refine m_unget (by assumption) (by k_asm) (by k_asm) ?N ?_; (case N => first | k_asm | exact News.tl (by k_asm) | exact News.tl (News.tl (by k_asm)) | exact News.tl (News.tl (News.tl (by k_asm))))))
  k_with "getMethod ref" => ((with_reducible show wpAny _ _ (getMethod (Value.ref _) (Str.ofString "charsUntil") _) _ _ _); k_dflt (refine m_until (by assumption) (by k_asm) (by k_asm) ?N ?_; (case N => first | k_asm | exact News.tl (by k_asm) | exact News.tl (News.tl (by k_asm)) | exact News.tl (News.tl (News.tl (by k_asm))))))
  k_with "getMethod ref" => ((with_reducible show wpAny _ _ (getMethod (Value.ref _) (Str.ofString "read") _) _ _ _); k_dflt (refine m_read (by assumption) (by assumption) (by k_asm) (by k_asm) ?N ?_; (case N => first | k_asm | exact News.tl (by k_asm) | exact News.tl (News.tl (by k_asm)) | exact News.tl (News.tl (News.tl (by k_asm))))))
  k_with "getMethod ref" => ((with_reducible show wpAny _ _ (getMethod (Value.ref _) (Str.ofString "reportCharacterErrors") _) _ _ _); k_dflt (refine m_rep (by assumption) (by k_asm) (by k_asm) ?N ?_; (case N => first | k_asm | exact News.tl (by k_asm) | exact News.tl (News.tl (by k_asm)) | exact News.tl (News.tl (News.tl (by k_asm))))); intro _ hR1)
  k_with "getMethod ref" => ((with_reducible show wpAny _ _ (getMethod (Value.ref _) (Str.ofString "append") _) _ _ _); k_dflt (refine m_append (by assumption) (by assumption) (by k_asm) (by k_asm) ?N ?_; (case N => first | k_asm | exact News.tl (by k_asm) | exact News.tl (News.tl (by k_asm)) | exact News.tl (News.tl (News.tl (by k_asm))))))
  k_with "call builtin:list.append" => ((with_reducible rename LedR _ _ _ _ _ _ _ _ _ _ _ _ _ _ => hLo); k_dflt (refine app_err hLo (by assumption) (by k_asm) (by k_asm) ?N (by lia) ?_; (case N => first | k_asm | exact News.tl (by k_asm) | exact News.tl (News.tl (by k_asm)) | exact News.tl (News.tl (News.tl (by k_asm))))); intro h' n' F' N' hL'; (try k_sweep); clear hLo)
  k_with "call ref" => ((with_reducible show wpAny _ _ (call (Value.ref 35) _) _ _ _); k_dflt ((refine' Spec.useS (hP ▸ read_spec (by assumption) (by assumption) size _ hR hp hsz) ?B ?F ?X ?N ?T ?hk ?hd ?hu ?_); (case B => k_asm); (case F => k_asm); (case X => k_asm); (case T => k_asm); (case hk => first | exact rfl | assumption); (case N => first | k_asm | exact News.tl (by k_asm) | exact News.tl (News.tl (by k_asm)) | exact News.tl (News.tl (News.tl (by k_asm)))); (case hd => ktr_room); (case hu => ktr_units); intro t' n' h' tk' hL' hle' F' N'; (try dsimp only); (try k_fold)))
  k_with "call ref" => ((with_reducible show wpAny _ _ (call (Value.ref 84) _) _ _ _); k_dflt ((refine' Spec.usePos (pos_spec (by assumption) ck.length _ (Nat.le_refl _) hc) hpp ?B ?F ?X ?N ?T ?hk ?hd ?hu ?_); (case B => k_asm); (case F => k_asm); (case X => k_asm); (case T => k_asm); (case hk => first | exact rfl | assumption); (case N => first | k_asm | exact News.tl (by k_asm) | exact News.tl (News.tl (by k_asm)) | exact News.tl (News.tl (News.tl (by k_asm)))); (case hd => ktr_room); (case hu => ktr_units); intro D' ta' tb' h' tk' hlt' hle' F' N'; (try k_lt hlt'); (try dsimp only); (try k_fold)))
  k_with "exec If" => ((with_reducible show wpAny _ _ (exec (Stmt.If (Expr.Attribute _ (Str.ofString "_bufferedCharacter") _) _ _ _) _) _ _ _); (rename Fr _ _ _ _ => F1); k_dflt (refine' join_if (n := 1) F1 (fun m' nw => (∃ t2 t0 : Tok, m' = fun y => if y = Str.ofString "data" then some (Value.str (S (bf.toList ++ P)) t2) else if y = Str.ofString "chunkSize" then some (Value.int (size : Int) t0) else List.lookup y [(Str.ofString "chunkSize", v), (Str.ofString "self", Value.ref x)]) ∧ bf.toList ++ P ≠ [] ∧ LedR w R rest ad x [] 0 0 er (p.1 : Int) (p.2 : Int) none ((pla + P.length : Nat) : Int) nw) ?ja ?jb); (case' ja => (rcases bf with _ | b) <;> ((try dsimp only [Option.toList, List.cons_append, List.nil_append] at *); (try k_fold))); (case' jb => clear F1; k_sweep; (with_reducible rename LedR _ _ _ _ _ _ _ _ _ _ _ _ _ _ => hLo); clear hLo; intro h' tk' m' nw' htk' hP' F' N'; (obtain ⟨⟨t2, t0, hm'⟩, hne', hL'⟩ := hP'); subst hm'; (obtain ⟨D, hD⟩ : ∃ D, bf.toList ++ P = D := ⟨_, rfl⟩); (have hDl : D.length ≤ 1001 := by rw [← hD, List.length_append]; exact Nat.le_trans (Nat.add_le_add hbl hPl) (Nat.le_of_ble_eq_true rfl)); (have hsl := split_len D); (rw [hD] at hne' F' hret); dsimp only at *; (try k_fold)))
  k_with "exec If" => ((with_reducible show wpAny _ _ (exec (Stmt.If (Expr.Compare (Expr.Call _ _ _ _) [CmpOp.Gt] _ _) _ _ _) _) _ _ _); (rename Fr _ _ _ _ => F1); k_dflt (refine' join_if (n := 1) F1 (fun m' nw => (∃ (t2 t0 : Tok), ∀ y, y ≠ Str.ofString "lastv" → m' y = if y = Str.ofString "data" then some (Value.str (S (split D).1) t2) else if y = Str.ofString "chunkSize" then some (Value.int (size : Int) t0) else List.lookup y [(Str.ofString "chunkSize", v), (Str.ofString "self", Value.ref x)]) ∧ LedR w R rest ad x [] 0 0 er (p.1 : Int) (p.2 : Int) (split D).2 ((pla + P.length : Nat) : Int) nw) ?jc ?jd); (case' jc => (try k_fold)); (case' jd => clear F1; k_sweep; (with_reducible rename LedR _ _ _ _ _ _ _ _ _ _ _ _ _ _ => hLo); clear hLo; intro h' tk' m' nw' htk' hP' F' N'; (obtain ⟨⟨t2, t0, hm0⟩, hL'⟩ := hP'); (obtain ⟨u2, hm'⟩ := mixL hm0); subst hm'; clear hm0; (obtain ⟨⟨d1, d2⟩, hdd⟩ : ∃ dd, split D = dd := ⟨_, rfl⟩); (rw [hdd] at F' hL' hret hsl); dsimp only at *; (try k_fold)))
  k_with "exec If" => ((with_reducible show wpAny _ _ (exec (Stmt.If (Expr.Compare (Expr.Name _ _) [CmpOp.Is] _ _) _ _ _) _) _ _ _); (rename Fr _ _ _ _ => F1); (rename News _ _ _ _ => N1); k_dflt (refine' join_if (n := 0) F1 (fun m' nw => (∃ t0 : Tok, m' = fun y => if y = Str.ofString "chunkSize" then some (Value.int (size : Int) t0) else List.lookup y [(Str.ofString "chunkSize", v), (Str.ofString "self", Value.ref x)]) ∧ nw = news) ?je ?jf); (case' je => (unfold Hid at hv0; rcases hv0 with ⟨h1, h2⟩ | ⟨h1, h2, h3⟩ <;> subst h2); (try k_fold)); (case' jf => clear F1 N1; intro h' tk' m' nw' htk' hP' F' N'; (obtain ⟨⟨t0, hm'⟩, hn'⟩ := hP'); subst hm'; subst hn'; (try dsimp only); (try k_fold)))
  k_with "call ref" => (k_dflt ((refine' Spec.useM ?N0 ?q0 (errs_spec (by assumption) d1 _ ?hl ?hE) ?B ?F ?X ?N ?T ?hk ?hd ?hu ?_); (case N0 => k_asm); (case q0 => assumption); (case hl => lia); (case hE => lia); (case B => k_asm); (case F => k_asm); (case X => k_asm); (case T => k_asm); (case hk => first | exact rfl | assumption); (case N => first | k_asm | exact News.tl (by k_asm) | exact News.tl (News.tl (by k_asm)) | exact News.tl (News.tl (News.tl (by k_asm)))); (case hd => ktr_room); (case hu => ktr_units); (intro r' n' h' tk' hR' hle' F' N'); (obtain ⟨hr', hL'⟩ := hR'); subst hr'; (try dsimp only); (try k_fold)))
  k_dflt (refine' code_def (binds := [(Str.ofString "self", Value.ref x), (Str.ofString "chunkSize", v)]) ?k1 ?k2 ?k3 ?k4 ?k5 ?kA ?kF ?kK ?k6 ?k7 ?k8 ?k9 ?kB ?_ ?c2 ?c3 ?c4 ?c5; (case kA => exact rfl); (case kF => exact rfl); (case kK => assumption); (case k1 => k_asm); (case k2 => k_asm); (case k3 => k_asm); (case k4 => k_asm); (case k5 => k_asm); (case k6 => k_is); (case k7 => k_is); (case k8 => ktr_room); (case k9 => unfold Hid at hv0; rcases hv0 with ⟨h1, h2⟩ | ⟨h1, h2, h3⟩ <;> subst h1 <;> subst h2 <;> first | exact BindsTo.of_eq rfl | exact binds_K (by k_in) rfl (by k_is) rfl rfl rfl); (case c5 => decide); (case kB => exact locs rfl); (case c2 => exact rfl); (case c3 => exact rfl); (case c4 => exact rfl); k_whole; intro g' L' h' FG' F' N' B' X' T'; (try dsimp only); (try k_lift B'); (try k_fold))
  (rename Fr _ _ _ _ => F1)
  (with_unfolding_all change Fr _ _ _ (fun y => List.lookup y [(Str.ofString "chunkSize", v), (Str.ofString "self", Value.ref x)]) at F1)
  k_steps
  all_goals first
    | (refine hret _ _ _ _ ⟨congrArg Value.bool (decide_eq_true hne').symm, ?_⟩ (by assumption) (by assumption); assumption)
    | (have hs := split_yes (l := D) (by lia) (by lia)
       rw [hs]
       refine' join_end (by assumption) ?N1 (by lia) ⟨⟨_, t0, by first | exact off_a | exact off_b | exact fun _ _ => rfl⟩, by assumption⟩
       (case N1 => first | assumption | exact News.tl (by assumption) | exact News.tl (News.tl (by assumption)) | exact News.tl (News.tl (News.tl (by assumption)))))
    | (have hs := split_no (l := D) (by lia)
       rw [hs]
       refine' join_end (by assumption) ?N2 (by lia) ⟨⟨_, t0, by first | exact off_a | exact off_b | exact fun _ _ => rfl⟩, by assumption⟩
       (case N2 => first | assumption | exact News.tl (by assumption) | exact News.tl (News.tl (by assumption)) | exact News.tl (News.tl (News.tl (by assumption)))))
    | exact absurd (List.cons_ne_nil _ _) (by assumption)
    | (refine' join_end (by assumption) ?N3 (by lia) ⟨⟨_, t0, rfl⟩, by assumption, by assumption⟩
       (case N3 => first | assumption | exact News.tl (by assumption) | exact News.tl (News.tl (by assumption)) | exact News.tl (News.tl (News.tl (by assumption)))))
    | (refine' join_end (by assumption) ?N4 (by lia) ⟨⟨_, t0, cut_if⟩, List.cons_ne_nil _ _, by assumption⟩
       (case N4 => first | assumption | exact News.tl (by assumption) | exact News.tl (News.tl (by assumption)) | exact News.tl (News.tl (News.tl (by assumption)))))
    | (have hz : P = [] := Decidable.not_not.mp (by assumption)
       subst hz
       exact hret _ _ _ _ ⟨rfl, by assumption⟩ (by assumption) (by assumption))
    | (subst h3
       refine join_end (by assumption) (by assumption) (Nat.zero_le _) ⟨⟨_, rfl⟩, rfl⟩)
    | exact join_end (by assumption) (by assumption) (Nat.zero_le _) ⟨⟨t, look_if⟩, rfl⟩
    | trace_state
end
section
variable {w : World} {mean : ExcName → Option Value} {mg mb : Str → Option Value} {R : List Nat} {rest : List (Addr × Obj)} {ad : List Nat} {x : Nat} {st : St} {news : List (Addr × Obj)}
theorem chunk_spec (hL : LedIs w R rest ad x st news) (size : Nat) (t : Tok)
    (hR : R.length ≤ 1000) (hp : st.place ≤ 1000) (hc : st.chunk.length ≤ 10000) (he : st.errs ≤ 100000) (hsz : size ≤ 100000) :
    Spec w mean mg mb 106 [.ref x, .int (size : Int) t] 40 300 news (fun v n => v = .bool (decide (st.data R size ≠ [])) ∧ LedIs w R rest ad x (st.fetch R size) n) :=
  chunk_gen hL size t _ _ (.inl ⟨rfl, rfl⟩) hR hp hc he hsz
theorem chunk0_spec (hL : LedIs w R rest ad x st news)
    (hR : R.length ≤ 1000) (hp : st.place ≤ 1000) (hc : st.chunk.length ≤ 10000) (he : st.errs ≤ 100000) :
    Spec w mean mg mb 106 [.ref x] 40 300 news (fun v n => v = .bool (decide (st.data R 10240 ≠ [])) ∧ LedIs w R rest ad x (st.fetch R 10240) n) :=
  chunk_gen hL 10240 0 _ _ (.inr ⟨rfl, rfl, rfl⟩) hR hp hc he (by decide)
end
section
variable {w : World} {mean : ExcName → Option Value} {mg mb : Str → Option Value} {R : List Nat} {rest : List (Addr × Obj)} {ad : List Nat} {x : Nat} {st : St} {news : List (Addr × Obj)}
set_option maxRecDepth 100000 in
set_option maxHeartbeats 8000000 in
theorem char_spec (hL : LedIs w R rest ad x st news)
    (hR : R.length ≤ 1000) (hp : st.place ≤ 1000) (hc : st.chunk.length ≤ 10000) (he : st.errs ≤ 100000) :
    Spec w mean mg mb 98 [.ref x] 50 400 news (fun v n => BufIs v (st.charR R).1 ∧ LedIs w R rest ad x (st.charR R).2 n) := by
  refine Spec.of ?_
  intro dp un gd cn cs a ccd cl outer A₀ base h₀ L m s Q E B F X N T hk hd hu hret
  have hfl : (St.fetch R 10240 st).chunk.length ≤ 2000 := fetch_len hR
  have hfn : st.data R 10240 ≠ [] → 0 < (St.fetch R 10240 st).chunk.length := fun h => List.length_pos_iff.mpr (fetch_ne h)
  have hf0 : (St.fetch R 10240 st).off = 0 := rfl
  have hch := chunk0_spec (mean := mean) (mg := mg) (mb := mb) hL hR hp hc he
  unfold St.charR at hret
  generalize St.fetch R 10240 st = st2 at *
  generalize st.data R 10240 = dat at *
  obtain ⟨ck, of, er, pl, pc, bf, pla⟩ := st
  obtain ⟨ck2, of2, er2, pl2, pc2, bf2, pla2⟩ := st2
  unfold LedIs at hL
  dsimp only at *
  subst hf0
  k_with_none
  k_with "tb" => (first | assumption | (apply le3; assumption; exact rfl) | lia | (simp only [List.length_append, List.length_cons, List.length_nil, List.length_take, List.length_drop, List.length_dropLast, crs_len, partOf_len] at *; lia) | ((with_reducible refine Nat.le_trans (crlf_len _) ?_); tb_start) | ((with_reducible refine Nat.le_trans (split_len _) ?_); tb_start) | ((with_reducible refine Nat.le_trans (norm_len _) ?_); tb_start))
  k_with "call builtin:str.count" => (refine count4 (by decide +kernel) (by first | assumption | lia) ?_)
  k_with "call builtin:str.rfind" => (refine rfind4 (by decide +kernel) (by first | assumption | lia) ?_)
  k_with "call builtin:str.replace" => ((try dsimp only at *); k_dflt (refine repl_crlf_S (by decide +kernel) (by decide +kernel) (by k_ne) (by k_ne) (by k_ne) (by tb_start) ?_); intro _ _ _)
  k_with "call builtin:str.replace" => ((try dsimp only at *); k_dflt (refine repl_cr_S (by decide +kernel) (by decide +kernel) (by k_ne) (by k_ne) (by k_ne) (by tb_start) ?_); intro _ _ _)
  k_with "call builtin:len" => ((with_reducible show wpAny _ _ (call (Value.builtin "len") [Value.str (S _) _]) _ _ _); refine len_S (by tb_start) ?_)
  k_with "call builtin:ord" => ((with_reducible show wpAny _ _ (call (Value.builtin "ord") [Value.str (S _) _]) _ _ _); refine ord_S ?_)
  k_with "binaryOp Add str str" => ((with_reducible show wpAny _ _ (binaryOp Operator.Add (Value.str (S _) _) (Value.str (S _) _)) _ _ _); refine add_S (by tb_start) ?_; intro _ _)
  k_with "inplaceOp Add str str" => ((with_reducible show wpAny _ _ (inplaceOp Operator.Add (Value.str (S _) _) (Value.str (S _) _)) _ _ _); refine iadd_S (by tb_start) ?_; intro _ _)
  k_with "truthy str" => ((with_reducible show wpAny _ _ (truthy (Value.str (S _) _)) _ _ _); refine truthy_S (by tb_start) ?_)
  k_with "compareOp Eq str str" => ((with_reducible show wpAny _ _ (compareOp CmpOp.Eq (Value.str (S _) _) (Value.str (S _) _)) _ _ _); refine eq_S ?_)
  k_with "compareOp NotEq str str" => ((with_reducible show wpAny _ _ (compareOp CmpOp.NotEq (Value.str (S _) _) (Value.str (S _) _)) _ _ _); refine ne_S ?_)
  k_with "subscriptTail Name Slice str ref" => (k_here; (with_reducible rename Fr _ _ _ _ => F'); (with_reducible rename News _ _ _ _ => N'); k_dflt (refine drop_S (s := ⟨_, _, _, _, _⟩) F' N' (by tb_start) ?_); intro _ _ _ _ _; (try k_sweep))
  k_with "subscriptTail Name Slice str ref" => (k_here; (with_reducible rename Fr _ _ _ _ => F'); (with_reducible rename News _ _ _ _ => N'); k_dflt (refine take_S (s := ⟨_, _, _, _, _⟩) F' N' (by tb_start) ?_); intro _ _ _ _ _; (try k_sweep))
  k_with "subscriptTail Name Slice str ref" => (k_here; (with_reducible rename Fr _ _ _ _ => F'); (with_reducible rename News _ _ _ _ => N'); k_dflt (refine mid_S (s := ⟨_, _, _, _, _⟩) F' N' (by tb_start) ?_); intro _ _ _ _ _; (try k_sweep))
  k_with "subscriptTail Name Slice str ref" => (k_here; (with_reducible rename Fr _ _ _ _ => F'); (with_reducible rename News _ _ _ _ => N'); k_dflt (refine part_S (s := ⟨_, _, _, _, _⟩) F' N' (by tb_start) ?_); intro _ _ _ _ _; (try k_sweep))
  k_with "subscriptTail Name Slice str ref" => (k_here; (with_reducible rename Fr _ _ _ _ => F'); (with_reducible rename News _ _ _ _ => N'); k_dflt (refine init_S (s := ⟨_, _, _, _, _⟩) F' N' (by tb_start) ?_); intro _ _ _ _ _; (try k_sweep))
  k_with "subscriptTail Name UnaryOp str int" => (k_here; (with_reducible show wpAny _ _ (subscriptTail _ _ (Value.str (S _) _) (Value.int _ _)) _ _ _); k_dflt (first | (refine last_S (by first | assumption | (intro hz; simp only [hz, List.length_nil] at *; lia)) (by tb_start) ?_) | (refine item_S (by first | assumption | lia | k_extra "my item") (by tb_start) ?_)))
  k_with "subscriptTail Name Name str int" => (k_here; (with_reducible show wpAny _ _ (subscriptTail _ _ (Value.str (S _) _) (Value.int _ _)) _ _ _); first | (with_reducible refine item_S (by k_dflt (first | assumption | lia | k_extra "my item")) (by k_dflt tb_start) ?_) | k_dflt (refine item_Si (by lia) (by first | lia | k_extra "my item") (by tb_start) ?_))
  k_with "subscriptTail Name Constant str int" => (k_here; (with_reducible show wpAny _ _ (subscriptTail _ _ (Value.str (S _) _) (Value.int _ _)) _ _ _); first | (with_reducible refine item_S (by k_dflt (first | assumption | lia | k_extra "my item")) (by k_dflt tb_start) ?_) | k_dflt (refine item_Si (by lia) (by first | lia | k_extra "my item") (by tb_start) ?_))
  k_with "subscriptTail Name BinOp str int" => (k_here; (with_reducible show wpAny _ _ (subscriptTail _ _ (Value.str (S _) _) (Value.int _ _)) _ _ _); first | (with_reducible refine item_S (by k_dflt (first | assumption | lia | k_extra "my item")) (by k_dflt tb_start) ?_) | k_dflt (refine item_Si (by lia) (by first | lia | k_extra "my item") (by tb_start) ?_))
  k_with "subscriptTail Attribute Name str int" => (k_here; (with_reducible show wpAny _ _ (subscriptTail _ _ (Value.str (S _) _) (Value.int _ _)) _ _ _); first | (with_reducible refine item_S (by k_dflt (first | assumption | lia | k_extra "my item")) (by k_dflt tb_start) ?_) | k_dflt (refine item_Si (by lia) (by first | lia | k_extra "my item") (by tb_start) ?_))
  k_with "subscriptTail Attribute Constant str int" => (k_here; (with_reducible show wpAny _ _ (subscriptTail _ _ (Value.str (S _) _) (Value.int _ _)) _ _ _); first | (with_reducible refine item_S (by k_dflt (first | assumption | lia | k_extra "my item")) (by k_dflt tb_start) ?_) | k_dflt (refine item_Si (by lia) (by first | lia | k_extra "my item") (by tb_start) ?_))
  k_with "subscriptTail Attribute Attribute str int" => (k_here; (with_reducible show wpAny _ _ (subscriptTail _ _ (Value.str (S _) _) (Value.int _ _)) _ _ _); first | (with_reducible refine item_S (by k_dflt (first | assumption | lia | k_extra "my item")) (by k_dflt tb_start) ?_) | k_dflt (refine item_Si (by lia) (by first | lia | k_extra "my item") (by tb_start) ?_))
  k_with "truthy ref" => (k_here; k_dflt (refine' truthy_meth ?N ?q ?_; (case N => k_asm); (case q => k_mem); k_whole))
  k_with "exec For Name Name cons nil" => (k_here; (with_reducible rename Fr _ _ _ _ => lF'); k_dflt (refine' For_invVF lF' ?k1 ?k2 ?_; (case k1 => exact rfl); (case k2 => exact rfl); k_whole))
  k_with "exec For Name Subscript cons nil" => (k_here; (with_reducible rename Fr _ _ _ _ => lF'); k_dflt (refine' For_invVF lF' ?k1 ?k2 ?_; (case k1 => exact rfl); (case k2 => exact rfl); k_whole))
  k_with "all" => (refine List.forall_mem_append.mpr ⟨?a, ?b⟩; (case a => k_all); (case b => k_all))
  k_with "rel" => (simp only [List.size_toArray]; rw [PySem.sizeLine_eq]; lia)
  k_with "call builtin:list.append" => (k_here; (with_reducible show wpAny _ _ (call (Value.builtin _) [Value.ref _, _]) _ _ _); k_dflt (refine' append_K ?k1 ?k2 ?k3 ?_ ?z; (case k1 => k_asm); (case k2 => k_asm); (case k3 => k_upd); (case z => tb_rel); k_whole); intro h' F' N'; (try simp only [List.push_toArray] at N'); (try k_sweep))
  k_with "enter" => (refine' code_def ?k1 ?k2 ?k3 ?k4 ?k5 ?kA ?kF ?kK ?k6 ?k7 ?k8 ?k9 ?kB ?_ ?c2 ?c3 ?c4 ?c5; (case kA => exact rfl); (case kF => exact rfl); (case kK => assumption); (case k1 => k_asm); (case k2 => k_asm); (case k3 => k_asm); (case k4 => k_asm); (case k5 => k_asm); (case k6 => k_is); (case k7 => k_is); (case k8 => ktr_room); (case k9 => first | exact BindsTo.of_eq rfl | exact binds_K (by k_in) rfl (by k_is) rfl rfl rfl); (case c5 => decide); (case kB => exact locs rfl); (case c2 => exact rfl); (case c3 => exact rfl); (case c4 => exact rfl); k_whole; intro g' L' h' FG' F' N' B' X' T'; (try dsimp only); (try k_lift B'); (try k_fold))
  k_with "JoinP" => (dsimp only [JoinP])
  k_with "subscriptTail" => (k_here; (with_reducible show wpAny _ _ (subscriptTail _ _ (Value.str (S _) _) (Value.int _ _)) _ _ _); first | (with_reducible refine item_S (by k_dflt (first | assumption | lia | k_extra "my item")) (by k_dflt tb_start) ?_) | k_dflt (refine item_Si (by lia) (by first | lia | k_extra "my item") (by tb_start) ?_))
  k_with "compareOp Eq str str" => ((with_reducible show wpAny _ _ (compareOp CmpOp.Eq (Value.str (S _) _) (Value.str (Str.ofString _) _)) _ _ _); k_dflt (first | refine eq_lit [13] (by decide +kernel) ?_ | refine eq_lit [10] (by decide +kernel) ?_))
  k_with "compareOp NotEq str str" => ((with_reducible show wpAny _ _ (compareOp CmpOp.NotEq (Value.str (S _) _) (Value.str (Str.ofString _) _)) _ _ _); k_dflt (first | refine ne_lit [13] (by decide +kernel) ?_ | refine ne_lit [10] (by decide +kernel) ?_))
  k_with "inplaceOp Add str str" => ((with_reducible show wpAny _ _ (inplaceOp Operator.Add (Value.str (S _) _) (Value.str (Str.ofString _) _)) _ _ _); k_dflt (refine iadd_lit [10] (by decide +kernel) (by tb_start) ?_); intro _ _)
  k_with "room" => (k_dflt ((first | apply room4 | apply room3 | apply room2 | apply room1 | apply room0 | apply roomz); assumption; exact rfl))
  k_with "getAttr ref" => ((with_reducible show wpAny _ _ (getAttr (Value.ref _) (Str.ofString "chunk") _) _ _ _); k_dflt (refine g_chunk (by assumption) (by k_asm) (by k_asm) ?N ?_; (case N => first | k_asm | exact News.tl (by k_asm) | exact News.tl (News.tl (by k_asm)) | exact News.tl (News.tl (News.tl (by k_asm))))); intro _)
  k_with "getAttr ref" => ((with_reducible show wpAny _ _ (getAttr (Value.ref _) (Str.ofString "chunkSize") _) _ _ _); k_dflt (refine g_size (by assumption) (by k_asm) (by k_asm) ?N ?_; (case N => first | k_asm | exact News.tl (by k_asm) | exact News.tl (News.tl (by k_asm)) | exact News.tl (News.tl (News.tl (by k_asm))))); intro _)
  k_with "getAttr ref" => ((with_reducible show wpAny _ _ (getAttr (Value.ref _) (Str.ofString "chunkOffset") _) _ _ _); k_dflt (refine g_off (by assumption) (by k_asm) (by k_asm) ?N ?_; (case N => first | k_asm | exact News.tl (by k_asm) | exact News.tl (News.tl (by k_asm)) | exact News.tl (News.tl (News.tl (by k_asm))))); intro _)
  k_with "getAttr ref" => ((with_reducible show wpAny _ _ (getAttr (Value.ref _) (Str.ofString "prevNumLines") _) _ _ _); k_dflt (refine g_pl (by assumption) (by k_asm) (by k_asm) ?N ?_; (case N => first | k_asm | exact News.tl (by k_asm) | exact News.tl (News.tl (by k_asm)) | exact News.tl (News.tl (News.tl (by k_asm))))); intro _)
  k_with "getAttr ref" => ((with_reducible show wpAny _ _ (getAttr (Value.ref _) (Str.ofString "prevNumCols") _) _ _ _); k_dflt (refine g_pc (by assumption) (by k_asm) (by k_asm) ?N ?_; (case N => first | k_asm | exact News.tl (by k_asm) | exact News.tl (News.tl (by k_asm)) | exact News.tl (News.tl (News.tl (by k_asm))))); intro _)
  k_with "getAttr ref" => ((with_reducible show wpAny _ _ (getAttr (Value.ref _) (Str.ofString "errors") _) _ _ _); k_dflt (refine g_errors (by assumption) (by k_asm) (by k_asm) ?N ?_; (case N => first | k_asm | exact News.tl (by k_asm) | exact News.tl (News.tl (by k_asm)) | exact News.tl (News.tl (News.tl (by k_asm))))); intro _ hE1)
  k_with "getAttr ref" => ((with_reducible show wpAny _ _ (getAttr (Value.ref _) (Str.ofString "dataStream") _) _ _ _); k_dflt (refine g_stream (by assumption) (by k_asm) (by k_asm) ?N ?_; (case N => first | k_asm | exact News.tl (by k_asm) | exact News.tl (News.tl (by k_asm)) | exact News.tl (News.tl (News.tl (by k_asm))))); intro _ hT1)
  k_with "getAttr ref" => ((with_reducible show wpAny _ _ (getAttr (Value.ref _) (Str.ofString "_bufferedCharacter") _) _ _ _); k_dflt (refine g_buf (by assumption) (by k_asm) (by k_asm) ?N ?_; (case N => first | k_asm | exact News.tl (by k_asm) | exact News.tl (News.tl (by k_asm)) | exact News.tl (News.tl (News.tl (by k_asm))))); intro _ hB1; (try cases hB1))
  k_with "getAttr ref" => ((with_reducible show wpAny _ _ (getAttr (Value.ref _) (Str.ofString "reportCharacterErrors") _) _ _ _); k_dflt (refine g_rep (by assumption) (by k_asm) (by k_asm) ?N ?_; (case N => first | k_asm | exact News.tl (by k_asm) | exact News.tl (News.tl (by k_asm)) | exact News.tl (News.tl (News.tl (by k_asm))))); intro _ hR1)
  k_with "getAttr ref" => ((with_reducible show wpAny _ _ (getAttr (Value.ref _) (Str.ofString "_defaultChunkSize") _) _ _ _); k_dflt (refine g_dflt (by assumption) (by k_asm) (by k_asm) ?N ?_; (case N => first | k_asm | exact News.tl (by k_asm) | exact News.tl (News.tl (by k_asm)) | exact News.tl (News.tl (News.tl (by k_asm))))); intro _)
  k_with "getAttr ref" => ((with_reducible show wpAny _ _ (getAttr (Value.ref _) (Str.ofString "text") _) _ _ _); k_dflt (refine g_text (by assumption) (by assumption) (by k_asm) (by k_asm) ?N ?_; (case N => first | k_asm | exact News.tl (by k_asm) | exact News.tl (News.tl (by k_asm)) | exact News.tl (News.tl (News.tl (by k_asm))))); intro _)
  k_with "getAttr ref" => ((with_reducible show wpAny _ _ (getAttr (Value.ref _) (Str.ofString "place") _) _ _ _); k_dflt (refine g_place (by assumption) (by assumption) (by k_asm) (by k_asm) ?N ?_; (case N => first | k_asm | exact News.tl (by k_asm) | exact News.tl (News.tl (by k_asm)) | exact News.tl (News.tl (News.tl (by k_asm))))); intro _)
  k_with "setAttr ref" => ((with_reducible show wpAny _ _ (setAttr (Value.ref _) (Str.ofString "chunk") _) _ _ _); (with_reducible rename LedR _ _ _ _ _ _ _ _ _ _ _ _ _ _ => hLo); k_dflt (refine s_chunk hLo (by k_asm) (by k_asm) ?N ?_; (case N => first | k_asm | exact News.tl (by k_asm) | exact News.tl (News.tl (by k_asm)) | exact News.tl (News.tl (News.tl (by k_asm))))); intro h' n' F' N' hL'; (try k_sweep); clear hLo)
  k_with "setAttr ref" => ((with_reducible show wpAny _ _ (setAttr (Value.ref _) (Str.ofString "chunk") (Value.str (Str.ofString "") _)) _ _ _); (with_reducible rename LedR _ _ _ _ _ _ _ _ _ _ _ _ _ _ => hLo); k_dflt (refine s_chunk0 hLo (by k_asm) (by k_asm) ?N ?_; (case N => first | k_asm | exact News.tl (by k_asm) | exact News.tl (News.tl (by k_asm)) | exact News.tl (News.tl (News.tl (by k_asm))))); intro h' n' F' N' hL'; (try k_sweep); clear hLo)
  k_with "setAttr ref" => ((with_reducible show wpAny _ _ (setAttr (Value.ref _) (Str.ofString "chunkSize") _) _ _ _); (with_reducible rename LedR _ _ _ _ _ _ _ _ _ _ _ _ _ _ => hLo); k_dflt (refine s_size hLo (by k_asm) (by k_asm) ?N ?_; (case N => first | k_asm | exact News.tl (by k_asm) | exact News.tl (News.tl (by k_asm)) | exact News.tl (News.tl (News.tl (by k_asm))))); intro h' n' F' N' hL'; (try k_sweep); clear hLo)
  k_with "setAttr ref" => ((with_reducible show wpAny _ _ (setAttr (Value.ref _) (Str.ofString "chunkOffset") _) _ _ _); (with_reducible rename LedR _ _ _ _ _ _ _ _ _ _ _ _ _ _ => hLo); k_dflt (refine s_off hLo (by k_asm) (by k_asm) ?N ?_; (case N => first | k_asm | exact News.tl (by k_asm) | exact News.tl (News.tl (by k_asm)) | exact News.tl (News.tl (News.tl (by k_asm))))); intro h' n' F' N' hL'; (try k_sweep); clear hLo)
  k_with "setAttr ref" => ((with_reducible show wpAny _ _ (setAttr (Value.ref _) (Str.ofString "prevNumLines") _) _ _ _); (with_reducible rename LedR _ _ _ _ _ _ _ _ _ _ _ _ _ _ => hLo); k_dflt (refine s_pl hLo (by k_asm) (by k_asm) ?N ?_; (case N => first | k_asm | exact News.tl (by k_asm) | exact News.tl (News.tl (by k_asm)) | exact News.tl (News.tl (News.tl (by k_asm))))); intro h' n' F' N' hL'; (try k_sweep); clear hLo)
  k_with "setAttr ref" => ((with_reducible show wpAny _ _ (setAttr (Value.ref _) (Str.ofString "prevNumCols") _) _ _ _); (with_reducible rename LedR _ _ _ _ _ _ _ _ _ _ _ _ _ _ => hLo); k_dflt (refine s_pc hLo (by k_asm) (by k_asm) ?N ?_; (case N => first | k_asm | exact News.tl (by k_asm) | exact News.tl (News.tl (by k_asm)) | exact News.tl (News.tl (News.tl (by k_asm))))); intro h' n' F' N' hL'; (try k_sweep); clear hLo)
  k_with "setAttr ref" => ((with_reducible show wpAny _ _ (setAttr (Value.ref _) (Str.ofString "_bufferedCharacter") _) _ _ _); (with_reducible rename LedR _ _ _ _ _ _ _ _ _ _ _ _ _ _ => hLo); k_dflt (refine s_buf (by first | exact BufIs.none | exact BufIs.some | assumption) hLo (by k_asm) (by k_asm) ?N ?_; (case N => first | k_asm | exact News.tl (by k_asm) | exact News.tl (News.tl (by k_asm)) | exact News.tl (News.tl (News.tl (by k_asm))))); intro h' n' F' N' hL'; (try k_sweep); clear hLo)
  k_with "setAttr ref" => ((with_reducible show wpAny _ _ (setAttr (Value.ref _) (Str.ofString "place") _) _ _ _); (with_reducible rename LedR _ _ _ _ _ _ _ _ _ _ _ _ _ _ => hLo); k_dflt (refine s_place hLo (by assumption) (by k_asm) (by k_asm) ?N ?_; (case N => first | k_asm | exact News.tl (by k_asm) | exact News.tl (News.tl (by k_asm)) | exact News.tl (News.tl (News.tl (by k_asm))))); intro h' n' F' N' hL'; (try k_sweep); clear hLo)
  k_with "getMethod ref" => ((with_reducible show wpAny _ _ (getMethod (Value.ref _) (Str.ofString "_position") _) _ _ _); k_dflt (refine m_pos_ (by assumption) (by k_asm) (by k_asm) ?N ?_; (case N => first | k_asm | exact News.tl (by k_asm) | exact News.tl (News.tl (by k_asm)) | exact News.tl (News.tl (News.tl (by k_asm))))))
  k_with "getMethod ref" => ((with_reducible show wpAny _ _ (getMethod (Value.ref _) (Str.ofString "position") _) _ _ _); k_dflt (refine m_pos (by assumption) (by k_asm) (by k_asm) ?N ?_; (case N => first | k_asm | exact News.tl (by k_asm) | exact News.tl (News.tl (by k_asm)) | exact News.tl (News.tl (News.tl (by k_asm))))))
  k_with "getMethod ref" => ((with_reducible show wpAny _ _ (getMethod (Value.ref _) (Str.ofString "char") _) _ _ _); k_dflt (refine m_char (by assumption) (by k_asm) (by k_asm) ?N ?_; (case N => first | k_asm | exact News.tl (by k_asm) | exact News.tl (News.tl (by k_asm)) | exact News.tl (News.tl (News.tl (by k_asm))))))
  k_with "getMethod ref" => ((with_reducible show wpAny _ _ (getMethod (Value.ref _) (Str.ofString "readChunk") _) _ _ _); k_dflt (refine m_chunk (by assumption) (by k_asm) (by k_asm) ?N ?_; (case N => first | k_asm | exact News.tl (by k_asm) | exact News.tl (News.tl (by k_asm)) | exact News.tl (News.tl (News.tl (by k_asm))))))
  k_with "getMethod ref" => ((with_reducible show wpAny _ _ (getMethod (Value.ref _) (Str.ofString "unget") _) _ _ _); k_dflt (refine m_unget (by assumption) (by k_asm) (by k_asm) ?N ?_; (case N => first | k_asm | exact News.tl (by k_asm) | exact News.tl (News.tl (by k_asm)) | exact News.tl (News.tl (News.tl (by k_asm))))))
  k_with "getMethod ref" => ((with_reducible show wpAny _ _ (getMethod (Value.ref _) (Str.ofString "charsUntil") _) _ _ _); k_dflt (refine m_until (by assumption) (by k_asm) (by k_asm) ?N ?_; (case N => first | k_asm | exact News.tl (by k_asm) | exact News.tl (News.tl (by k_asm)) | exact News.tl (News.tl (News.tl (by k_asm))))))
  k_with "getMethod ref" => ((with_reducible show wpAny _ _ (getMethod (Value.ref _) (Str.ofString "read") _) _ _ _); k_dflt (refine m_read (by assumption) (by assumption) (by k_asm) (by k_asm) ?N ?_; (case N => first | k_asm | exact News.tl (by k_asm) | exact News.tl (News.tl (by k_asm)) | exact News.tl (News.tl (News.tl (by k_asm))))))
  k_with "getMethod ref" => ((with_reducible show wpAny _ _ (getMethod (Value.ref _) (Str.ofString "reportCharacterErrors") _) _ _ _); k_dflt (refine m_rep (by assumption) (by k_asm) (by k_asm) ?N ?_; (case N => first | k_asm | exact News.tl (by k_asm) | exact News.tl (News.tl (by k_asm)) | exact News.tl (News.tl (News.tl (by k_asm))))); intro _ hR1)
  k_with "getMethod ref" => ((with_reducible show wpAny _ _ (getMethod (Value.ref _) (Str.ofString "append") _) _ _ _); k_dflt (refine m_append (by assumption) (by assumption) (by k_asm) (by k_asm) ?N ?_; (case N => first | k_asm | exact News.tl (by k_asm) | exact News.tl (News.tl (by k_asm)) | exact News.tl (News.tl (News.tl (by k_asm))))))
  k_with "call builtin:list.append" => ((with_reducible rename LedR _ _ _ _ _ _ _ _ _ _ _ _ _ _ => hLo); k_dflt (refine app_err hLo (by assumption) (by k_asm) (by k_asm) ?N (by lia) ?_; (case N => first | k_asm | exact News.tl (by k_asm) | exact News.tl (News.tl (by k_asm)) | exact News.tl (News.tl (News.tl (by k_asm))))); intro h' n' F' N' hL'; (try k_sweep); clear hLo)
  k_with "call ref" => ((with_reducible show wpAny _ _ (call (Value.ref 106) _) _ _ _); k_dflt ((refine' Spec.useV hch ?B ?F ?X ?N ?T ?hk ?hd ?hu ?_); (case B => k_asm); (case F => k_asm); (case X => k_asm); (case T => k_asm); (case hk => first | exact rfl | assumption); (case N => first | k_asm | exact News.tl (by k_asm) | exact News.tl (News.tl (by k_asm)) | exact News.tl (News.tl (News.tl (by k_asm)))); (case hd => ktr_room); (case hu => ktr_units); intro n' h' tk' hL' hle' F' N'; (clear hL); (unfold LedIs at hL'); (try dsimp only at *); (try k_fold)))
  k_with "my item" => exact hfn (by assumption)
  k_dflt (k_extra "enter")
  (rename Fr _ _ _ _ => F1)
  (with_unfolding_all change Fr _ _ _ (fun y => List.lookup y [(Str.ofString "self", Value.ref x)]) at F1)
  k_steps
  · rw [if_neg (by lia), if_neg (by assumption)] at hret
    exact hret _ _ _ _ ⟨BufIs.some, by assumption⟩ (by assumption) (by assumption)
  · rw [if_neg (by lia), if_pos (Decidable.not_not.mp (by assumption))] at hret
    exact hret _ _ _ _ ⟨BufIs.none, by assumption⟩ (by assumption) (by assumption)
  · rw [if_pos (by lia)] at hret
    exact hret _ _ _ _ ⟨BufIs.some, by assumption⟩ (by assumption) (by assumption)
end
section
variable {w : World} {mean : ExcName → Option Value} {mg mb : Str → Option Value} {R : List Nat} {rest : List (Addr × Obj)} {ad : List Nat} {x : Nat} {st st1 : St} {news : List (Addr × Obj)}
theorem char_some {c : Nat} (hc : st.charR R = (some c, st1)) (H : Spec w mean mg mb 98 [.ref x] 50 400 news (fun v n => BufIs v (st.charR R).1 ∧ LedIs w R rest ad x (st.charR R).2 n)) :
    Spec w mean mg mb 98 [.ref x] 50 400 news (fun v n => (∃ t, v = .str (S [c]) t) ∧ LedIs w R rest ad x st1 n) := by
  rw [hc] at H
  exact H.mono fun v n h => ⟨by cases h.1; exact ⟨_, rfl⟩, h.2⟩
theorem char_none (hc : st.charR R = (none, st1)) (H : Spec w mean mg mb 98 [.ref x] 50 400 news (fun v n => BufIs v (st.charR R).1 ∧ LedIs w R rest ad x (st.charR R).2 n)) :
    Spec w mean mg mb 98 [.ref x] 50 400 news (fun v n => v = .none ∧ LedIs w R rest ad x st1 n) := by
  rw [hc] at H
  exact H.mono fun v n h => ⟨by cases h.1; rfl, h.2⟩
end
section
variable {w : World} {mean : ExcName → Option Value} {mg mb : Str → Option Value} {R : List Nat} {rest : List (Addr × Obj)} {ad : List Nat} {x : Nat} {st : St} {news : List (Addr × Obj)}
set_option maxRecDepth 100000 in
set_option maxHeartbeats 8000000 in
theorem unget_spec (hL : LedIs w R rest ad x st news) (c : Nat) (t : Tok) (hc : st.chunk.length ≤ 10000) (ho : st.off ≤ st.chunk.length) (hk1 : 0 < st.off → st.chunk.getD (st.off - 1) 0 = c) :
    Spec w mean mg mb 128 [.ref x, .str (S [c]) t] 10 60 news (fun v n => v = .none ∧ LedIs w R rest ad x (st.unget c) n) := by
  refine Spec.of ?_
  intro dp un gd cn cs a ccd cl outer A₀ base h₀ L m s Q E B F X N T hk hd hu hret
  obtain ⟨ck, of, er, pl, pc, bf, pla⟩ := st
  unfold LedIs at hL
  unfold St.unget at hret
  dsimp only at *
  k_with_none
  k_with "tb" => (first | assumption | (apply le3; assumption; exact rfl) | lia | (simp only [List.length_append, List.length_cons, List.length_nil, List.length_take, List.length_drop, List.length_dropLast, crs_len, partOf_len] at *; lia) | ((with_reducible refine Nat.le_trans (crlf_len _) ?_); tb_start) | ((with_reducible refine Nat.le_trans (split_len _) ?_); tb_start) | ((with_reducible refine Nat.le_trans (norm_len _) ?_); tb_start))
  k_with "call builtin:str.count" => (refine count4 (by decide +kernel) (by first | assumption | lia) ?_)
  k_with "call builtin:str.rfind" => (refine rfind4 (by decide +kernel) (by first | assumption | lia) ?_)
  k_with "call builtin:str.replace" => ((try dsimp only at *); k_dflt (refine repl_crlf_S (by decide +kernel) (by decide +kernel) (by k_ne) (by k_ne) (by k_ne) (by tb_start) ?_); intro _ _ _)
  k_with "call builtin:str.replace" => ((try dsimp only at *); k_dflt (refine repl_cr_S (by decide +kernel) (by decide +kernel) (by k_ne) (by k_ne) (by k_ne) (by tb_start) ?_); intro _ _ _)
  k_with "call builtin:len" => ((with_reducible show wpAny _ _ (call (Value.builtin "len") [Value.str (S _) _]) _ _ _); refine len_S (by tb_start) ?_)
  k_with "call builtin:ord" => ((with_reducible show wpAny _ _ (call (Value.builtin "ord") [Value.str (S _) _]) _ _ _); refine ord_S ?_)
  k_with "binaryOp Add str str" => ((with_reducible show wpAny _ _ (binaryOp Operator.Add (Value.str (S _) _) (Value.str (S _) _)) _ _ _); refine add_S (by tb_start) ?_; intro _ _)
  k_with "inplaceOp Add str str" => ((with_reducible show wpAny _ _ (inplaceOp Operator.Add (Value.str (S _) _) (Value.str (S _) _)) _ _ _); refine iadd_S (by tb_start) ?_; intro _ _)
  k_with "truthy str" => ((with_reducible show wpAny _ _ (truthy (Value.str (S _) _)) _ _ _); refine truthy_S (by tb_start) ?_)
  k_with "compareOp Eq str str" => ((with_reducible show wpAny _ _ (compareOp CmpOp.Eq (Value.str (S _) _) (Value.str (S _) _)) _ _ _); refine eq_S ?_)
  k_with "compareOp NotEq str str" => ((with_reducible show wpAny _ _ (compareOp CmpOp.NotEq (Value.str (S _) _) (Value.str (S _) _)) _ _ _); refine ne_S ?_)
  k_with "subscriptTail Name Slice str ref" => (k_here; (with_reducible rename Fr _ _ _ _ => F'); (with_reducible rename News _ _ _ _ => N'); k_dflt (refine drop_S (s := ⟨_, _, _, _, _⟩) F' N' (by tb_start) ?_); intro _ _ _ _ _; (try k_sweep))
  k_with "subscriptTail Name Slice str ref" => (k_here; (with_reducible rename Fr _ _ _ _ => F'); (with_reducible rename News _ _ _ _ => N'); k_dflt (refine take_S (s := ⟨_, _, _, _, _⟩) F' N' (by tb_start) ?_); intro _ _ _ _ _; (try k_sweep))
  k_with "subscriptTail Name Slice str ref" => (k_here; (with_reducible rename Fr _ _ _ _ => F'); (with_reducible rename News _ _ _ _ => N'); k_dflt (refine mid_S (s := ⟨_, _, _, _, _⟩) F' N' (by tb_start) ?_); intro _ _ _ _ _; (try k_sweep))
  k_with "subscriptTail Name Slice str ref" => (k_here; (with_reducible rename Fr _ _ _ _ => F'); (with_reducible rename News _ _ _ _ => N'); k_dflt (refine part_S (s := ⟨_, _, _, _, _⟩) F' N' (by tb_start) ?_); intro _ _ _ _ _; (try k_sweep))
  k_with "subscriptTail Name Slice str ref" => (k_here; (with_reducible rename Fr _ _ _ _ => F'); (with_reducible rename News _ _ _ _ => N'); k_dflt (refine init_S (s := ⟨_, _, _, _, _⟩) F' N' (by tb_start) ?_); intro _ _ _ _ _; (try k_sweep))
  k_with "subscriptTail Name UnaryOp str int" => (k_here; (with_reducible show wpAny _ _ (subscriptTail _ _ (Value.str (S _) _) (Value.int _ _)) _ _ _); k_dflt (first | (refine last_S (by first | assumption | (intro hz; simp only [hz, List.length_nil] at *; lia)) (by tb_start) ?_) | (refine item_S (by first | assumption | lia | k_extra "my item") (by tb_start) ?_)))
  k_with "subscriptTail Name Name str int" => (k_here; (with_reducible show wpAny _ _ (subscriptTail _ _ (Value.str (S _) _) (Value.int _ _)) _ _ _); first | (with_reducible refine item_S (by k_dflt (first | assumption | lia | k_extra "my item")) (by k_dflt tb_start) ?_) | k_dflt (refine item_Si (by lia) (by first | lia | k_extra "my item") (by tb_start) ?_))
  k_with "subscriptTail Name Constant str int" => (k_here; (with_reducible show wpAny _ _ (subscriptTail _ _ (Value.str (S _) _) (Value.int _ _)) _ _ _); first | (with_reducible refine item_S (by k_dflt (first | assumption | lia | k_extra "my item")) (by k_dflt tb_start) ?_) | k_dflt (refine item_Si (by lia) (by first | lia | k_extra "my item") (by tb_start) ?_))
  k_with "subscriptTail Name BinOp str int" => (k_here; (with_reducible show wpAny _ _ (subscriptTail _ _ (Value.str (S _) _) (Value.int _ _)) _ _ _); first | (with_reducible refine item_S (by k_dflt (first | assumption | lia | k_extra "my item")) (by k_dflt tb_start) ?_) | k_dflt (refine item_Si (by lia) (by first | lia | k_extra "my item") (by tb_start) ?_))
  k_with "subscriptTail Attribute Name str int" => (k_here; (with_reducible show wpAny _ _ (subscriptTail _ _ (Value.str (S _) _) (Value.int _ _)) _ _ _); first | (with_reducible refine item_S (by k_dflt (first | assumption | lia | k_extra "my item")) (by k_dflt tb_start) ?_) | k_dflt (refine item_Si (by lia) (by first | lia | k_extra "my item") (by tb_start) ?_))
  k_with "subscriptTail Attribute Constant str int" => (k_here; (with_reducible show wpAny _ _ (subscriptTail _ _ (Value.str (S _) _) (Value.int _ _)) _ _ _); first | (with_reducible refine item_S (by k_dflt (first | assumption | lia | k_extra "my item")) (by k_dflt tb_start) ?_) | k_dflt (refine item_Si (by lia) (by first | lia | k_extra "my item") (by tb_start) ?_))
  k_with "subscriptTail Attribute Attribute str int" => (k_here; (with_reducible show wpAny _ _ (subscriptTail _ _ (Value.str (S _) _) (Value.int _ _)) _ _ _); first | (with_reducible refine item_S (by k_dflt (first | assumption | lia | k_extra "my item")) (by k_dflt tb_start) ?_) | k_dflt (refine item_Si (by lia) (by first | lia | k_extra "my item") (by tb_start) ?_))
  k_with "truthy ref" => (k_here; k_dflt (refine' truthy_meth ?N ?q ?_; (case N => k_asm); (case q => k_mem); k_whole))
  k_with "exec For Name Name cons nil" => (k_here; (with_reducible rename Fr _ _ _ _ => lF'); k_dflt (refine' For_invVF lF' ?k1 ?k2 ?_; (case k1 => exact rfl); (case k2 => exact rfl); k_whole))
  k_with "exec For Name Subscript cons nil" => (k_here; (with_reducible rename Fr _ _ _ _ => lF'); k_dflt (refine' For_invVF lF' ?k1 ?k2 ?_; (case k1 => exact rfl); (case k2 => exact rfl); k_whole))
  k_with "all" => (refine List.forall_mem_append.mpr ⟨?a, ?b⟩; (case a => k_all); (case b => k_all))
  k_with "rel" => (simp only [List.size_toArray]; rw [PySem.sizeLine_eq]; lia)
  k_with "call builtin:list.append" => (k_here; (with_reducible show wpAny _ _ (call (Value.builtin _) [Value.ref _, _]) _ _ _); k_dflt (refine' append_K ?k1 ?k2 ?k3 ?_ ?z; (case k1 => k_asm); (case k2 => k_asm); (case k3 => k_upd); (case z => tb_rel); k_whole); intro h' F' N'; (try simp only [List.push_toArray] at N'); (try k_sweep))
  k_with "enter" => (refine' code_def ?k1 ?k2 ?k3 ?k4 ?k5 ?kA ?kF ?kK ?k6 ?k7 ?k8 ?k9 ?kB ?_ ?c2 ?c3 ?c4 ?c5; (case kA => exact rfl); (case kF => exact rfl); (case kK => assumption); (case k1 => k_asm); (case k2 => k_asm); (case k3 => k_asm); (case k4 => k_asm); (case k5 => k_asm); (case k6 => k_is); (case k7 => k_is); (case k8 => ktr_room); (case k9 => first | exact BindsTo.of_eq rfl | exact binds_K (by k_in) rfl (by k_is) rfl rfl rfl); (case c5 => decide); (case kB => exact locs rfl); (case c2 => exact rfl); (case c3 => exact rfl); (case c4 => exact rfl); k_whole; intro g' L' h' FG' F' N' B' X' T'; (try dsimp only); (try k_lift B'); (try k_fold))
  k_with "JoinP" => (dsimp only [JoinP])
  k_with "subscriptTail" => (k_here; (with_reducible show wpAny _ _ (subscriptTail _ _ (Value.str (S _) _) (Value.int _ _)) _ _ _); first | (with_reducible refine item_S (by k_dflt (first | assumption | lia | k_extra "my item")) (by k_dflt tb_start) ?_) | k_dflt (refine item_Si (by lia) (by first | lia | k_extra "my item") (by tb_start) ?_))
  k_with "compareOp Eq str str" => ((with_reducible show wpAny _ _ (compareOp CmpOp.Eq (Value.str (S _) _) (Value.str (Str.ofString _) _)) _ _ _); k_dflt (first | refine eq_lit [13] (by decide +kernel) ?_ | refine eq_lit [10] (by decide +kernel) ?_))
  k_with "compareOp NotEq str str" => ((with_reducible show wpAny _ _ (compareOp CmpOp.NotEq (Value.str (S _) _) (Value.str (Str.ofString _) _)) _ _ _); k_dflt (first | refine ne_lit [13] (by decide +kernel) ?_ | refine ne_lit [10] (by decide +kernel) ?_))
  k_with "inplaceOp Add str str" => ((with_reducible show wpAny _ _ (inplaceOp Operator.Add (Value.str (S _) _) (Value.str (Str.ofString _) _)) _ _ _); k_dflt (refine iadd_lit [10] (by decide +kernel) (by tb_start) ?_); intro _ _)
  k_with "room" => (k_dflt ((first | apply room4 | apply room3 | apply room2 | apply room1 | apply room0 | apply roomz); assumption; exact rfl))
  k_with "getAttr ref" => ((with_reducible show wpAny _ _ (getAttr (Value.ref _) (Str.ofString "chunk") _) _ _ _); k_dflt (refine g_chunk (by assumption) (by k_asm) (by k_asm) ?N ?_; (case N => first | k_asm | exact News.tl (by k_asm) | exact News.tl (News.tl (by k_asm)) | exact News.tl (News.tl (News.tl (by k_asm))))); intro _)
  k_with "getAttr ref" => ((with_reducible show wpAny _ _ (getAttr (Value.ref _) (Str.ofString "chunkSize") _) _ _ _); k_dflt (refine g_size (by assumption) (by k_asm) (by k_asm) ?N ?_; (case N => first | k_asm | exact News.tl (by k_asm) | exact News.tl (News.tl (by k_asm)) | exact News.tl (News.tl (News.tl (by k_asm))))); intro _)
  k_with "getAttr ref" => ((with_reducible show wpAny _ _ (getAttr (Value.ref _) (Str.ofString "chunkOffset") _) _ _ _); k_dflt (refine g_off (by assumption) (by k_asm) (by k_asm) ?N ?_; (case N => first | k_asm | exact News.tl (by k_asm) | exact News.tl (News.tl (by k_asm)) | exact News.tl (News.tl (News.tl (by k_asm))))); intro _)
  k_with "getAttr ref" => ((with_reducible show wpAny _ _ (getAttr (Value.ref _) (Str.ofString "prevNumLines") _) _ _ _); k_dflt (refine g_pl (by assumption) (by k_asm) (by k_asm) ?N ?_; (case N => first | k_asm | exact News.tl (by k_asm) | exact News.tl (News.tl (by k_asm)) | exact News.tl (News.tl (News.tl (by k_asm))))); intro _)
  k_with "getAttr ref" => ((with_reducible show wpAny _ _ (getAttr (Value.ref _) (Str.ofString "prevNumCols") _) _ _ _); k_dflt (refine g_pc (by assumption) (by k_asm) (by k_asm) ?N ?_; (case N => first | k_asm | exact News.tl (by k_asm) | exact News.tl (News.tl (by k_asm)) | exact News.tl (News.tl (News.tl (by k_asm))))); intro _)
  k_with "getAttr ref" => ((with_reducible show wpAny _ _ (getAttr (Value.ref _) (Str.ofString "errors") _) _ _ _); k_dflt (refine g_errors (by assumption) (by k_asm) (by k_asm) ?N ?_; (case N => first | k_asm | exact News.tl (by k_asm) | exact News.tl (News.tl (by k_asm)) | exact News.tl (News.tl (News.tl (by k_asm))))); intro _ hE1)
  k_with "getAttr ref" => ((with_reducible show wpAny _ _ (getAttr (Value.ref _) (Str.ofString "dataStream") _) _ _ _); k_dflt (refine g_stream (by assumption) (by k_asm) (by k_asm) ?N ?_; (case N => first | k_asm | exact News.tl (by k_asm) | exact News.tl (News.tl (by k_asm)) | exact News.tl (News.tl (News.tl (by k_asm))))); intro _ hT1)
  k_with "getAttr ref" => ((with_reducible show wpAny _ _ (getAttr (Value.ref _) (Str.ofString "_bufferedCharacter") _) _ _ _); k_dflt (refine g_buf (by assumption) (by k_asm) (by k_asm) ?N ?_; (case N => first | k_asm | exact News.tl (by k_asm) | exact News.tl (News.tl (by k_asm)) | exact News.tl (News.tl (News.tl (by k_asm))))); intro _ hB1; (try cases hB1))
  k_with "getAttr ref" => ((with_reducible show wpAny _ _ (getAttr (Value.ref _) (Str.ofString "reportCharacterErrors") _) _ _ _); k_dflt (refine g_rep (by assumption) (by k_asm) (by k_asm) ?N ?_; (case N => first | k_asm | exact News.tl (by k_asm) | exact News.tl (News.tl (by k_asm)) | exact News.tl (News.tl (News.tl (by k_asm))))); intro _ hR1)
  k_with "getAttr ref" => ((with_reducible show wpAny _ _ (getAttr (Value.ref _) (Str.ofString "_defaultChunkSize") _) _ _ _); k_dflt (refine g_dflt (by assumption) (by k_asm) (by k_asm) ?N ?_; (case N => first | k_asm | exact News.tl (by k_asm) | exact News.tl (News.tl (by k_asm)) | exact News.tl (News.tl (News.tl (by k_asm))))); intro _)
  k_with "getAttr ref" => ((with_reducible show wpAny _ _ (getAttr (Value.ref _) (Str.ofString "text") _) _ _ _); k_dflt (refine g_text (by assumption) (by assumption) (by k_asm) (by k_asm) ?N ?_; (case N => first | k_asm | exact News.tl (by k_asm) | exact News.tl (News.tl (by k_asm)) | exact News.tl (News.tl (News.tl (by k_asm))))); intro _)
  k_with "getAttr ref" => ((with_reducible show wpAny _ _ (getAttr (Value.ref _) (Str.ofString "place") _) _ _ _); k_dflt (refine g_place (by assumption) (by assumption) (by k_asm) (by k_asm) ?N ?_; (case N => first | k_asm | exact News.tl (by k_asm) | exact News.tl (News.tl (by k_asm)) | exact News.tl (News.tl (News.tl (by k_asm))))); intro _)
  k_with "setAttr ref" => ((with_reducible show wpAny _ _ (setAttr (Value.ref _) (Str.ofString "chunk") _) _ _ _); (with_reducible rename LedR _ _ _ _ _ _ _ _ _ _ _ _ _ _ => hLo); k_dflt (refine s_chunk hLo (by k_asm) (by k_asm) ?N ?_; (case N => first | k_asm | exact News.tl (by k_asm) | exact News.tl (News.tl (by k_asm)) | exact News.tl (News.tl (News.tl (by k_asm))))); intro h' n' F' N' hL'; (try k_sweep); clear hLo)
  k_with "setAttr ref" => ((with_reducible show wpAny _ _ (setAttr (Value.ref _) (Str.ofString "chunk") (Value.str (Str.ofString "") _)) _ _ _); (with_reducible rename LedR _ _ _ _ _ _ _ _ _ _ _ _ _ _ => hLo); k_dflt (refine s_chunk0 hLo (by k_asm) (by k_asm) ?N ?_; (case N => first | k_asm | exact News.tl (by k_asm) | exact News.tl (News.tl (by k_asm)) | exact News.tl (News.tl (News.tl (by k_asm))))); intro h' n' F' N' hL'; (try k_sweep); clear hLo)
  k_with "setAttr ref" => ((with_reducible show wpAny _ _ (setAttr (Value.ref _) (Str.ofString "chunkSize") _) _ _ _); (with_reducible rename LedR _ _ _ _ _ _ _ _ _ _ _ _ _ _ => hLo); k_dflt (refine s_size hLo (by k_asm) (by k_asm) ?N ?_; (case N => first | k_asm | exact News.tl (by k_asm) | exact News.tl (News.tl (by k_asm)) | exact News.tl (News.tl (News.tl (by k_asm))))); intro h' n' F' N' hL'; (try k_sweep); clear hLo)
  k_with "setAttr ref" => ((with_reducible show wpAny _ _ (setAttr (Value.ref _) (Str.ofString "chunkOffset") _) _ _ _); (with_reducible rename LedR _ _ _ _ _ _ _ _ _ _ _ _ _ _ => hLo); k_dflt (refine s_off hLo (by k_asm) (by k_asm) ?N ?_; (case N => first | k_asm | exact News.tl (by k_asm) | exact News.tl (News.tl (by k_asm)) | exact News.tl (News.tl (News.tl (by k_asm))))); intro h' n' F' N' hL'; (try k_sweep); clear hLo)
  k_with "setAttr ref" => ((with_reducible show wpAny _ _ (setAttr (Value.ref _) (Str.ofString "prevNumLines") _) _ _ _); (with_reducible rename LedR _ _ _ _ _ _ _ _ _ _ _ _ _ _ => hLo); k_dflt (refine s_pl hLo (by k_asm) (by k_asm) ?N ?_; (case N => first | k_asm | exact News.tl (by k_asm) | exact News.tl (News.tl (by k_asm)) | exact News.tl (News.tl (News.tl (by k_asm))))); intro h' n' F' N' hL'; (try k_sweep); clear hLo)
  k_with "setAttr ref" => ((with_reducible show wpAny _ _ (setAttr (Value.ref _) (Str.ofString "prevNumCols") _) _ _ _); (with_reducible rename LedR _ _ _ _ _ _ _ _ _ _ _ _ _ _ => hLo); k_dflt (refine s_pc hLo (by k_asm) (by k_asm) ?N ?_; (case N => first | k_asm | exact News.tl (by k_asm) | exact News.tl (News.tl (by k_asm)) | exact News.tl (News.tl (News.tl (by k_asm))))); intro h' n' F' N' hL'; (try k_sweep); clear hLo)
  k_with "setAttr ref" => ((with_reducible show wpAny _ _ (setAttr (Value.ref _) (Str.ofString "_bufferedCharacter") _) _ _ _); (with_reducible rename LedR _ _ _ _ _ _ _ _ _ _ _ _ _ _ => hLo); k_dflt (refine s_buf (by first | exact BufIs.none | exact BufIs.some | assumption) hLo (by k_asm) (by k_asm) ?N ?_; (case N => first | k_asm | exact News.tl (by k_asm) | exact News.tl (News.tl (by k_asm)) | exact News.tl (News.tl (News.tl (by k_asm))))); intro h' n' F' N' hL'; (try k_sweep); clear hLo)
  k_with "setAttr ref" => ((with_reducible show wpAny _ _ (setAttr (Value.ref _) (Str.ofString "place") _) _ _ _); (with_reducible rename LedR _ _ _ _ _ _ _ _ _ _ _ _ _ _ => hLo); k_dflt (refine s_place hLo (by assumption) (by k_asm) (by k_asm) ?N ?_; (case N => first | k_asm | exact News.tl (by k_asm) | exact News.tl (News.tl (by k_asm)) | exact News.tl (News.tl (News.tl (by k_asm))))); intro h' n' F' N' hL'; (try k_sweep); clear hLo)
  k_with "getMethod ref" => ((with_reducible show wpAny _ _ (getMethod (Value.ref _) (Str.ofString "_position") _) _ _ _); k_dflt (refine m_pos_ (by assumption) (by k_asm) (by k_asm) ?N ?_; (case N => first | k_asm | exact News.tl (by k_asm) | exact News.tl (News.tl (by k_asm)) | exact News.tl (News.tl (News.tl (by k_asm))))))
  k_with "getMethod ref" => ((with_reducible show wpAny _ _ (getMethod (Value.ref _) (Str.ofString "position") _) _ _ _); k_dflt (refine m_pos (by assumption) (by k_asm) (by k_asm) ?N ?_; (case N => first | k_asm | exact News.tl (by k_asm) | exact News.tl (News.tl (by k_asm)) | exact News.tl (News.tl (News.tl (by k_asm))))))
  k_with "getMethod ref" => ((with_reducible show wpAny _ _ (getMethod (Value.ref _) (Str.ofString "char") _) _ _ _); k_dflt (refine m_char (by assumption) (by k_asm) (by k_asm) ?N ?_; (case N => first | k_asm | exact News.tl (by k_asm) | exact News.tl (News.tl (by k_asm)) | exact News.tl (News.tl (News.tl (by k_asm))))))
  k_with "getMethod ref" => ((with_reducible show wpAny _ _ (getMethod (Value.ref _) (Str.ofString "readChunk") _) _ _ _); k_dflt (refine m_chunk (by assumption) (by k_asm) (by k_asm) ?N ?_; (case N => first | k_asm | exact News.tl (by k_asm) | exact News.tl (News.tl (by k_asm)) | exact News.tl (News.tl (News.tl (by k_asm))))))
  k_with "getMethod ref" => ((with_reducible show wpAny _ _ (getMethod (Value.ref _) (Str.ofString "unget") _) _ _ _); k_dflt (refine m_unget (by assumption) (by k_asm) (by k_asm) ?N ?_; (case N => first | k_asm | exact News.tl (by k_asm) | exact News.tl (News.tl (by k_asm)) | exact News.tl (News.tl (News.tl (by k_asm))))))
  k_with "getMethod ref" => ((with_reducible show wpAny _ _ (getMethod (Value.ref _) (Str.ofString "charsUntil") _) _ _ _); k_dflt (refine m_until (by assumption) (by k_asm) (by k_asm) ?N ?_; (case N => first | k_asm | exact News.tl (by k_asm) | exact News.tl (News.tl (by k_asm)) | exact News.tl (News.tl (News.tl (by k_asm))))))
  k_with "getMethod ref" => ((with_reducible show wpAny _ _ (getMethod (Value.ref _) (Str.ofString "read") _) _ _ _); k_dflt (refine m_read (by assumption) (by assumption) (by k_asm) (by k_asm) ?N ?_; (case N => first | k_asm | exact News.tl (by k_asm) | exact News.tl (News.tl (by k_asm)) | exact News.tl (News.tl (News.tl (by k_asm))))))
  k_with "getMethod ref" => ((with_reducible show wpAny _ _ (getMethod (Value.ref _) (Str.ofString "reportCharacterErrors") _) _ _ _); k_dflt (refine m_rep (by assumption) (by k_asm) (by k_asm) ?N ?_; (case N => first | k_asm | exact News.tl (by k_asm) | exact News.tl (News.tl (by k_asm)) | exact News.tl (News.tl (News.tl (by k_asm))))); intro _ hR1)
  k_with "getMethod ref" => ((with_reducible show wpAny _ _ (getMethod (Value.ref _) (Str.ofString "append") _) _ _ _); k_dflt (refine m_append (by assumption) (by assumption) (by k_asm) (by k_asm) ?N ?_; (case N => first | k_asm | exact News.tl (by k_asm) | exact News.tl (News.tl (by k_asm)) | exact News.tl (News.tl (News.tl (by k_asm))))))
  k_with "call builtin:list.append" => ((with_reducible rename LedR _ _ _ _ _ _ _ _ _ _ _ _ _ _ => hLo); k_dflt (refine app_err hLo (by assumption) (by k_asm) (by k_asm) ?N (by lia) ?_; (case N => first | k_asm | exact News.tl (by k_asm) | exact News.tl (News.tl (by k_asm)) | exact News.tl (News.tl (News.tl (by k_asm))))); intro h' n' F' N' hL'; (try k_sweep); clear hLo)
  have hk9 : 0 < of → [ck.getD ((of : Int) - 1).toNat 0] = [c] := fun h => by
    rw [show ((of : Int) - 1).toNat = of - 1 from Int.toNat_sub of 1, hk1 h]
  k_with "compareOp Eq str str" => ((with_reducible show wpAny _ _ (compareOp CmpOp.Eq (Value.str (S _) _) (Value.str (S _) _)) _ _ _); k_dflt (refine eq_yes (hk9 (by lia)) ?_))
  k_dflt (k_extra "enter")
  (rename Fr _ _ _ _ => F1)
  (with_unfolding_all change Fr _ _ _ (fun y => List.lookup y [(Str.ofString "char", Value.str (S [c]) t), (Str.ofString "self", Value.ref x)]) at F1)
  k_steps
  · rw [if_pos (by lia)] at hret
    exact hret _ _ _ _ ⟨rfl, by assumption⟩ (by assumption) (by assumption)
  · rw [if_neg (by lia)] at hret
    exact hret _ _ _ _ ⟨rfl, LedR.eq (by assumption) rfl rfl (by dsimp only; lia) rfl rfl rfl rfl rfl⟩ (by assumption) (by assumption)
set_option maxRecDepth 100000 in
set_option maxHeartbeats 8000000 in
theorem unget_none_spec (hL : LedIs w R rest ad x st news) :
    Spec w mean mg mb 128 [.ref x, .none] 10 60 news (fun v n => v = .none ∧ LedIs w R rest ad x st n) := by
  refine Spec.of ?_
  intro dp un gd cn cs a ccd cl outer A₀ base h₀ L m s Q E B F X N T hk hd hu hret
  k_with_none
  k_with "tb" => (first | assumption | (apply le3; assumption; exact rfl) | lia | (simp only [List.length_append, List.length_cons, List.length_nil, List.length_take, List.length_drop, List.length_dropLast, crs_len, partOf_len] at *; lia) | ((with_reducible refine Nat.le_trans (crlf_len _) ?_); tb_start) | ((with_reducible refine Nat.le_trans (split_len _) ?_); tb_start) | ((with_reducible refine Nat.le_trans (norm_len _) ?_); tb_start))
  k_with "call builtin:str.count" => (refine count4 (by decide +kernel) (by first | assumption | lia) ?_)
  k_with "call builtin:str.rfind" => (refine rfind4 (by decide +kernel) (by first | assumption | lia) ?_)
  k_with "call builtin:str.replace" => ((try dsimp only at *); k_dflt (refine repl_crlf_S (by decide +kernel) (by decide +kernel) (by k_ne) (by k_ne) (by k_ne) (by tb_start) ?_); intro _ _ _)
  k_with "call builtin:str.replace" => ((try dsimp only at *); k_dflt (refine repl_cr_S (by decide +kernel) (by decide +kernel) (by k_ne) (by k_ne) (by k_ne) (by tb_start) ?_); intro _ _ _)
  k_with "call builtin:len" => ((with_reducible show wpAny _ _ (call (Value.builtin "len") [Value.str (S _) _]) _ _ _); refine len_S (by tb_start) ?_)
  k_with "call builtin:ord" => ((with_reducible show wpAny _ _ (call (Value.builtin "ord") [Value.str (S _) _]) _ _ _); refine ord_S ?_)
  k_with "binaryOp Add str str" => ((with_reducible show wpAny _ _ (binaryOp Operator.Add (Value.str (S _) _) (Value.str (S _) _)) _ _ _); refine add_S (by tb_start) ?_; intro _ _)
  k_with "inplaceOp Add str str" => ((with_reducible show wpAny _ _ (inplaceOp Operator.Add (Value.str (S _) _) (Value.str (S _) _)) _ _ _); refine iadd_S (by tb_start) ?_; intro _ _)
  k_with "truthy str" => ((with_reducible show wpAny _ _ (truthy (Value.str (S _) _)) _ _ _); refine truthy_S (by tb_start) ?_)
  k_with "compareOp Eq str str" => ((with_reducible show wpAny _ _ (compareOp CmpOp.Eq (Value.str (S _) _) (Value.str (S _) _)) _ _ _); refine eq_S ?_)
  k_with "compareOp NotEq str str" => ((with_reducible show wpAny _ _ (compareOp CmpOp.NotEq (Value.str (S _) _) (Value.str (S _) _)) _ _ _); refine ne_S ?_)
  k_with "subscriptTail Name Slice str ref" => (k_here; (with_reducible rename Fr _ _ _ _ => F'); (with_reducible rename News _ _ _ _ => N'); k_dflt (refine drop_S (s := ⟨_, _, _, _, _⟩) F' N' (by tb_start) ?_); intro _ _ _ _ _; (try k_sweep))
  k_with "subscriptTail Name Slice str ref" => (k_here; (with_reducible rename Fr _ _ _ _ => F'); (with_reducible rename News _ _ _ _ => N'); k_dflt (refine take_S (s := ⟨_, _, _, _, _⟩) F' N' (by tb_start) ?_); intro _ _ _ _ _; (try k_sweep))
  k_with "subscriptTail Name Slice str ref" => (k_here; (with_reducible rename Fr _ _ _ _ => F'); (with_reducible rename News _ _ _ _ => N'); k_dflt (refine mid_S (s := ⟨_, _, _, _, _⟩) F' N' (by tb_start) ?_); intro _ _ _ _ _; (try k_sweep))
  k_with "subscriptTail Name Slice str ref" => (k_here; (with_reducible rename Fr _ _ _ _ => F'); (with_reducible rename News _ _ _ _ => N'); k_dflt (refine part_S (s := ⟨_, _, _, _, _⟩) F' N' (by tb_start) ?_); intro _ _ _ _ _; (try k_sweep))
  k_with "subscriptTail Name Slice str ref" => (k_here; (with_reducible rename Fr _ _ _ _ => F'); (with_reducible rename News _ _ _ _ => N'); k_dflt (refine init_S (s := ⟨_, _, _, _, _⟩) F' N' (by tb_start) ?_); intro _ _ _ _ _; (try k_sweep))
  k_with "subscriptTail Name UnaryOp str int" => (k_here; (with_reducible show wpAny _ _ (subscriptTail _ _ (Value.str (S _) _) (Value.int _ _)) _ _ _); k_dflt (first | (refine last_S (by first | assumption | (intro hz; simp only [hz, List.length_nil] at *; lia)) (by tb_start) ?_) | (refine item_S (by first | assumption | lia | k_extra "my item") (by tb_start) ?_)))
  k_with "subscriptTail Name Name str int" => (k_here; (with_reducible show wpAny _ _ (subscriptTail _ _ (Value.str (S _) _) (Value.int _ _)) _ _ _); first | (with_reducible refine item_S (by k_dflt (first | assumption | lia | k_extra "my item")) (by k_dflt tb_start) ?_) | k_dflt (refine item_Si (by lia) (by first | lia | k_extra "my item") (by tb_start) ?_))
  k_with "subscriptTail Name Constant str int" => (k_here; (with_reducible show wpAny _ _ (subscriptTail _ _ (Value.str (S _) _) (Value.int _ _)) _ _ _); first | (with_reducible refine item_S (by k_dflt (first | assumption | lia | k_extra "my item")) (by k_dflt tb_start) ?_) | k_dflt (refine item_Si (by lia) (by first | lia | k_extra "my item") (by tb_start) ?_))
  k_with "subscriptTail Name BinOp str int" => (k_here; (with_reducible show wpAny _ _ (subscriptTail _ _ (Value.str (S _) _) (Value.int _ _)) _ _ _); first | (with_reducible refine item_S (by k_dflt (first | assumption | lia | k_extra "my item")) (by k_dflt tb_start) ?_) | k_dflt (refine item_Si (by lia) (by first | lia | k_extra "my item") (by tb_start) ?_))
  k_with "subscriptTail Attribute Name str int" => (k_here; (with_reducible show wpAny _ _ (subscriptTail _ _ (Value.str (S _) _) (Value.int _ _)) _ _ _); first | (with_reducible refine item_S (by k_dflt (first | assumption | lia | k_extra "my item")) (by k_dflt tb_start) ?_) | k_dflt (refine item_Si (by lia) (by first | lia | k_extra "my item") (by tb_start) ?_))
  k_with "subscriptTail Attribute Constant str int" => (k_here; (with_reducible show wpAny _ _ (subscriptTail _ _ (Value.str (S _) _) (Value.int _ _)) _ _ _); first | (with_reducible refine item_S (by k_dflt (first | assumption | lia | k_extra "my item")) (by k_dflt tb_start) ?_) | k_dflt (refine item_Si (by lia) (by first | lia | k_extra "my item") (by tb_start) ?_))
  k_with "subscriptTail Attribute Attribute str int" => (k_here; (with_reducible show wpAny _ _ (subscriptTail _ _ (Value.str (S _) _) (Value.int _ _)) _ _ _); first | (with_reducible refine item_S (by k_dflt (first | assumption | lia | k_extra "my item")) (by k_dflt tb_start) ?_) | k_dflt (refine item_Si (by lia) (by first | lia | k_extra "my item") (by tb_start) ?_))
  k_with "truthy ref" => (k_here; k_dflt (refine' truthy_meth ?N ?q ?_; (case N => k_asm); (case q => k_mem); k_whole))
  k_with "exec For Name Name cons nil" => (k_here; (with_reducible rename Fr _ _ _ _ => lF'); k_dflt (refine' For_invVF lF' ?k1 ?k2 ?_; (case k1 => exact rfl); (case k2 => exact rfl); k_whole))
  k_with "exec For Name Subscript cons nil" => (k_here; (with_reducible rename Fr _ _ _ _ => lF'); k_dflt (refine' For_invVF lF' ?k1 ?k2 ?_; (case k1 => exact rfl); (case k2 => exact rfl); k_whole))
  k_with "all" => (refine List.forall_mem_append.mpr ⟨?a, ?b⟩; (case a => k_all); (case b => k_all))
  k_with "rel" => (simp only [List.size_toArray]; rw [PySem.sizeLine_eq]; lia)
  k_with "call builtin:list.append" => (k_here; (with_reducible show wpAny _ _ (call (Value.builtin _) [Value.ref _, _]) _ _ _); k_dflt (refine' append_K ?k1 ?k2 ?k3 ?_ ?z; (case k1 => k_asm); (case k2 => k_asm); (case k3 => k_upd); (case z => tb_rel); k_whole); intro h' F' N'; (try simp only [List.push_toArray] at N'); (try k_sweep))
  k_with "enter" => (refine' code_def ?k1 ?k2 ?k3 ?k4 ?k5 ?kA ?kF ?kK ?k6 ?k7 ?k8 ?k9 ?kB ?_ ?c2 ?c3 ?c4 ?c5; (case kA => exact rfl); (case kF => exact rfl); (case kK => assumption); (case k1 => k_asm); (case k2 => k_asm); (case k3 => k_asm); (case k4 => k_asm); (case k5 => k_asm); (case k6 => k_is); (case k7 => k_is); (case k8 => ktr_room); (case k9 => first | exact BindsTo.of_eq rfl | exact binds_K (by k_in) rfl (by k_is) rfl rfl rfl); (case c5 => decide); (case kB => exact locs rfl); (case c2 => exact rfl); (case c3 => exact rfl); (case c4 => exact rfl); k_whole; intro g' L' h' FG' F' N' B' X' T'; (try dsimp only); (try k_lift B'); (try k_fold))
  k_with "JoinP" => (dsimp only [JoinP])
  k_with "subscriptTail" => (k_here; (with_reducible show wpAny _ _ (subscriptTail _ _ (Value.str (S _) _) (Value.int _ _)) _ _ _); first | (with_reducible refine item_S (by k_dflt (first | assumption | lia | k_extra "my item")) (by k_dflt tb_start) ?_) | k_dflt (refine item_Si (by lia) (by first | lia | k_extra "my item") (by tb_start) ?_))
  k_with "compareOp Eq str str" => ((with_reducible show wpAny _ _ (compareOp CmpOp.Eq (Value.str (S _) _) (Value.str (Str.ofString _) _)) _ _ _); k_dflt (first | refine eq_lit [13] (by decide +kernel) ?_ | refine eq_lit [10] (by decide +kernel) ?_))
  k_with "compareOp NotEq str str" => ((with_reducible show wpAny _ _ (compareOp CmpOp.NotEq (Value.str (S _) _) (Value.str (Str.ofString _) _)) _ _ _); k_dflt (first | refine ne_lit [13] (by decide +kernel) ?_ | refine ne_lit [10] (by decide +kernel) ?_))
  k_with "inplaceOp Add str str" => ((with_reducible show wpAny _ _ (inplaceOp Operator.Add (Value.str (S _) _) (Value.str (Str.ofString _) _)) _ _ _); k_dflt (refine iadd_lit [10] (by decide +kernel) (by tb_start) ?_); intro _ _)
  k_with "room" => (k_dflt ((first | apply room4 | apply room3 | apply room2 | apply room1 | apply room0 | apply roomz); assumption; exact rfl))
  k_dflt (k_extra "enter")
  k_steps
  all_goals exact hret _ _ _ _ ⟨rfl, hL⟩ (by assumption) (by assumption)
end
section
variable {w : World} {mean : ExcName → Option Value} {mg mb : Str → Option Value} {R : List Nat} {rest : List (Addr × Obj)} {ad : List Nat} {x : Nat} {ck : List Nat} {sz of : Int} {er : Nat} {pl pc : Int} {bf : Option Nat} {pla : Int} {news : List (Addr × Obj)}
  {A : Around} {E : Value → Shared → Prop} {s : Shared} {h₀ : Heap} {L : Addr} {m : Str → Option Value} {D : Nat} {vs : List Value} {nn : Nat}
/-- a text's sign in what charsUntil is given -/
def InIs (w : World) (cv : Value) (P : Nat → Bool) (rest : List (Addr × Obj)) : Prop := ∀ (A : Around) (E Q : Value → Shared → Prop) (s : Shared) (h₀ : Heap) (L : Addr) (c : Nat) (t : Tok) (news : List (Addr × Obj)), News h₀ L s.heap news → (∀ p ∈ rest, p ∈ news) → c < 1114112 → A.units + 64 < cLine → (∀ tk', s.toks ≤ tk' → Q (.bool (P c)) { s with toks := tk' }) → wpAny (model PySem.Challenge.pw_te0074_05 w) A (compareOp .In (.str (S [c]) t) cv) Q E s
theorem m_rv {Q : Value × List Value → Shared → Prop} {sem : Sem Bool} (hL : LedR w R ((D, W.listOf vs.toArray nn) :: rest) ad x ck sz of er pl pc bf pla news) (F : Fr h₀ L s.heap m) (X : (hd05.heap_39 w.params).In h₀) (N : News h₀ L s.heap news) (h : Q (.builtin "list.append", [.ref D]) s) :
    wpAny (model PySem.Challenge.pw_te0074_05 w) A (getMethod (.ref D) (Str.ofString "append") sem) Q E s := by
  obtain ⟨hA, hO, h1, h9⟩ := hL
  walk1
  exact h
theorem app_rv {Q : Value → Shared → Prop} {v : Value} (hL : LedR w R ((D, W.listOf vs.toArray nn) :: rest) ad x ck sz of er pl pc bf pla news) (hD : ∀ p ∈ rest, p.1 ≠ D) (F : Fr h₀ L s.heap m) (N : News h₀ L s.heap news) (hs : vs.length ≤ 1000000) (h : ∀ h' n' nn', Fr h₀ L h' m → News h₀ L h' n' → LedR w R ((D, W.listOf (vs ++ [v]).toArray nn') :: rest) ad x ck sz of er pl pc bf pla n' → Q .none { s with heap := h' }) :
    wpAny (model PySem.Challenge.pw_te0074_05 w) A (call (.builtin "list.append") [.ref D, v]) Q E s := by
  obtain ⟨hA, hO, h1, h9⟩ := hL
  have hq := fun b hb => (hO _ (.head _) b hb).symm
  have q1 := hq _ (.head _)
  have q2 := hq _ (.tail _ (.head _))
  have q3 := hq _ (.tail _ (.tail _ (.head _)))
  have q4 := hq _ (.tail _ (.tail _ (.tail _ (.head _))))
  have q5 := hq _ (.tail _ (.tail _ (.tail _ (.tail _ (.head _)))))
  have q6 := hq _ (.tail _ (.tail _ (.tail _ (.tail _ (.tail _ (.head _))))))
  have q7 := hq _ (.tail _ (.tail _ (.tail _ (.tail _ (.tail _ (.tail _ (.head _)))))))
  refine append_K F N (.tail q1 (.tail q2 (.tail q3 (.tail q4 (.tail q5 (.tail q6 (.tail q7 (.head hD)))))))) (fun h' F' N' => ?_) ?_
  · rw [List.push_toArray] at N'
    refine h _ _ _ F' N' (.mk hA ?_ h1 h9)
    intro p hp
    rcases List.mem_cons.mp hp with rfl | hp
    · exact fun b hb => (hq b hb).symm
    · exact hO p (.tail _ hp)
  · rw [List.size_toArray, PySem.sizeLine_eq]; lia
end
theorem LedR.push3 {w : World} {R : List Nat} {rest : List (Addr × Obj)} {ad : List Nat} {x : Nat} {ck : List Nat} {sz of : Int} {er : Nat} {pl pc : Int} {bf : Option Nat} {pla : Int} {news : List (Addr × Obj)} {h₀ g : Heap} {L : Addr} {D : Nat} {o : Obj} (h : LedR w R rest ad x ck sz of er pl pc bf pla news) (hl : ∀ p ∈ news, p.1 < D) (N : News h₀ L g ((D, o) :: news)) :
    ∃ D', D' = D ∧ ∃ n2, LedR w R ((D', o) :: rest) ad x ck sz of er pl pc bf pla n2 ∧ News h₀ L g n2 ∧ ∀ p ∈ rest, p.1 ≠ D' := by
  obtain ⟨n2, h1, h2, _⟩ := LedR.push h hl N
  exact ⟨D, rfl, n2, h1, h2, fun p hp => Nat.ne_of_lt (hl p (LedR.mem_rest h hp))⟩
/-- the pieces of a run, in their list; k more may come -/
def Rv (k : Nat) (vs : List Value) (l : List Nat) : Prop := ∃ ls : List (List Nat), StrsAre vs (ls.map S) ∧ ls.flatten = l ∧ ls.length + k ≤ 60 ∧ ∀ y ∈ ls, y.length ≤ 100
theorem Rv.nil {k : Nat} (h : k ≤ 60) : Rv k [] [] := ⟨[], .nil, rfl, by simpa using h, fun y hy => by cases hy⟩
theorem Rv.snoc {k : Nat} {vs : List Value} {l y : List Nat} {t : Tok} (h : Rv (k + 1) vs l) (hy : y.length ≤ 100) : Rv k (vs ++ [.str (S y) t]) (l ++ y) := by
  obtain ⟨ls, h1, h2, h3, h4⟩ := h
  refine ⟨ls ++ [y], ?_, ?_, ?_, ?_⟩
  · rw [List.map_append]; exact kct_snoc h1
  · rw [List.flatten_append, h2]; simp
  · rw [List.length_append, List.length_singleton]; lia
  · intro z hz
    rcases List.mem_append.mp hz with h | h
    · exact h4 z h
    · rw [List.mem_singleton.mp h]; exact hy
theorem Rv.len {k : Nat} {vs : List Value} {l : List Nat} (h : Rv k vs l) : vs.length ≤ 60 := by
  obtain ⟨ls, h1, h2, h3, h4⟩ := h
  have := StrsAre.length h1
  rw [List.length_map] at this
  lia
theorem app_rv2 {w : World} {R : List Nat} {rest : List (Addr × Obj)} {ad : List Nat} {x : Nat} {ck : List Nat} {sz of : Int} {er : Nat} {pl pc : Int} {bf : Option Nat} {pla : Int} {news : List (Addr × Obj)} {A : Around} {E : Value → Shared → Prop} {s : Shared} {h₀ : Heap} {L : Addr} {m : Str → Option Value} {D : Nat} {vs : List Value} {nn k : Nat} {l y : List Nat} {t : Tok} {Q : Value → Shared → Prop}
    (hL : LedR w R ((D, W.listOf vs.toArray nn) :: rest) ad x ck sz of er pl pc bf pla news) (hD : ∀ p ∈ rest, p.1 ≠ D) (hR : Rv (k + 1) vs l) (hy : y.length ≤ 100) (F : Fr h₀ L s.heap m) (N : News h₀ L s.heap news) (h : ∀ h' n' nn' vs', Rv k vs' (l ++ y) → Fr h₀ L h' m → News h₀ L h' n' → LedR w R ((D, W.listOf vs'.toArray nn') :: rest) ad x ck sz of er pl pc bf pla n' → Q .none { s with heap := h' }) :
    wpAny (model PySem.Challenge.pw_te0074_05 w) A (call (.builtin "list.append") [.ref D, .str (S y) t]) Q E s :=
  app_rv hL hD F N (Nat.le_trans hR.len (by decide)) fun h' n' nn' F' N' hL' => h h' n' nn' _ (hR.snoc hy) F' N' hL'
theorem join_R {prog : Program} {w : World} {A : Around} {E : Value → Shared → Prop} {s : Shared} {D : Addr} {Q : Value → Shared → Prop} {k : Nat} {vs : List Value} {l : List Nat} (h : Rv k vs l) {y : Str} {t : Tok} (hy : y = S []) (hl : s.heap.IsList D vs.toArray)
    (hq : ∀ t' k, Q (.str (S l) t') { s with toks := k }) : wpAny (model prog w) A (call (.builtin "str.join") [.str y t, .ref D]) Q E s := by
  obtain ⟨ls, h1, h2, h3, h4⟩ := h
  exact join_S h2 hy hl h1 (by lia) h4 hq
theorem getD_mem {l : List Nat} {i : Nat} (h : i < l.length) : l.getD i 0 ∈ l := by
  rw [List.getD_eq_getElem?_getD, List.getElem?_eq_getElem h]
  exact List.getElem_mem h
theorem not_beq {b : Bool} : ((!b) == b) = false := by cases b <;> rfl
theorem run_facts {P : Nat → Bool} {b : Bool} {ck : List Nat} {of : Nat} (h : of ≤ ck.length) : (∀ j, j < (runL P b (ck.drop of)).length → P (ck.getD (of + j) 0) = b) ∧ (∀ j, (runL P b (ck.drop of)).length ≤ j ∧ j ≤ (runL P b (ck.drop of)).length → of + j < ck.length → P (ck.getD (of + j) 0) = !b) ∧
    ∀ j, (runL P b (ck.drop of)).length ≤ j ∧ j ≤ (runL P b (ck.drop of)).length → (ck.take (of + j)).drop of = runL P b (ck.drop of) := by
  refine ⟨fun j hj => ?_, fun j hj h2 => ?_, fun j hj => ?_⟩
  · rw [← getD_drop]; exact runL_yes hj
  · obtain rfl : j = (runL P b (ck.drop of)).length := by lia
    rw [← getD_drop]
    exact runL_no (by rw [List.length_drop]; lia)
  · obtain rfl : j = (runL P b (ck.drop of)).length := by lia
    rw [List.drop_take, show of + (runL P b (ck.drop of)).length - of = (runL P b (ck.drop of)).length by lia, ← runL_take]
theorem while_j {prog : Program} {w : World} {A : Around} {E : Value → Shared → Prop} {Q : Flow → Shared → Prop} {s : Shared} {env : Env} {h₀ : Heap} {L : Addr} {test : Expr} {body : List Stmt} {pos : Pos} {m₀ : PySem.Str → Option Value} {news : List (Addr × Obj)} (J : (PySem.Str → Option Value) → Nat → (PySem.Str → Option Value) → List (Addr × Obj) → Prop) (n₀ : Nat)
    (F : Fr h₀ L s.heap m₀) (N : News h₀ L s.heap news) (P : (PySem.Str → Option Value) → List (Addr × Obj) → Prop) (hJ : J m₀ n₀ m₀ news)
    (turn : ∀ n m₁ news₁ h₁ tk₁, J m₀ n m₁ news₁ → Fr h₀ L h₁ m₁ → News h₀ L h₁ news₁ →
      wpAny (model prog w) A (isTrue test env (eval test env)) (fun b s₂ =>
        if b = true then wpAny (model prog w) A (execs body env) (WhileStep2 h₀ L s (J m₀) (JoinP 0 h₀ L s P Q) n) E s₂ else JoinP 0 h₀ L s P Q .next s₂) E { s with heap := h₁, toks := tk₁ })
    (done : ∀ (h' : Heap) (tk' : Nat) (m' : PySem.Str → Option Value) (nw' : List (Addr × Obj)), P m' nw' → Fr h₀ L h' m' → News h₀ L h' nw' → Q .next { s with heap := h', toks := tk' })
    (hE : PassesOwn (model prog w) A env E := by first | assumption | passes_own) :
    wpAny (model prog w) A (exec (.While test body [] pos) env) Q E s := join_if (n := 0) F P (while_m J n₀ F N hJ turn hE) (fun h' tk' m' nw' _ => done h' tk' m' nw')
theorem Until.inv {R : List Nat} {P : Nat → Bool} {b : Bool} {k : Nat} {st st' : St} {l : List Nat} (h : Until R P b k st l st') : UOk R st ∧
    ((st.off + (runL P b (st.chunk.drop st.off)).length < st.chunk.length ∧ l = runL P b (st.chunk.drop st.off) ∧ st' = { st with off := st.off + (runL P b (st.chunk.drop st.off)).length }) ∨
     (st.off + (runL P b (st.chunk.drop st.off)).length = st.chunk.length ∧ st.data R 10240 = [] ∧ l = st.chunk.drop st.off ∧ st' = st.fetch R 10240) ∨
     (st.off + (runL P b (st.chunk.drop st.off)).length = st.chunk.length ∧ st.data R 10240 ≠ [] ∧ ∃ n l2, k = n + 1 ∧ l = st.chunk.drop st.off ++ l2 ∧ Until R P b n (st.fetch R 10240) l2 st')) := by
  cases h with
  | stop ok h => exact ⟨ok, .inl ⟨h, rfl, rfl⟩⟩
  | last ok h hd => exact ⟨ok, .inr (.inl ⟨h, hd, rfl, rfl⟩)⟩
  | more ok h hd hn => exact ⟨ok, .inr (.inr ⟨h, hd, _, _, rfl, rfl, hn⟩)⟩
inductive UJ (w : World) (R : List Nat) (P : Nat → Bool) (b : Bool) (st' : St) (l : List Nat) (rest : List (Addr × Obj)) (ad : List Nat) (x D : Nat) (m₀ : Str → Option Value) (k : Nat) (m' : Str → Option Value) (nx : List (Addr × Obj)) : Prop
  | mk (st1 : St) (l1 l2 : List Nat) (vs : List Value) (nn : Nat) (u : Option Value) (hU : Until R P b k st1 l2 st') (hl : l1 ++ l2 = l) (hRv : Rv (k + 1) vs l1) (hL : LedIs w R ((D, W.listOf vs.toArray nn) :: rest) ad x st1 nx) (hm : m' = fun z => if z = Str.ofString "end" then u else m₀ z)
section
variable {w : World} {mean : ExcName → Option Value} {mg mb : Str → Option Value} {R : List Nat} {rest : List (Addr × Obj)} {ad : List Nat} {x : Nat} {st st' : St} {news : List (Addr × Obj)}
set_option maxRecDepth 100000 in
set_option maxHeartbeats 16000000 in
theorem until_gen (hL : LedIs w R rest ad x st news) {cv : Value} {P : Nat → Bool} (hIn : InIs w cv P rest) {b : Bool} (vs : List Value) (hv : vs = [.ref x, cv, .bool b] ∨ (vs = [.ref x, cv] ∧ b = false)) {n : Nat} {l : List Nat} (hU : Until R P b n st l st') (hn : n ≤ 50) :
    Spec w mean mg mb 121 vs 60 500 news (fun v nw => (∃ t, v = .str (S l) t) ∧ LedIs w R rest ad x st' nw) := by
  refine Spec.of ?_
  intro dp un gd cn cs a ccd cl outer A₀ base h₀ L m s Q E B F X N T hk hd hu hret
  have hv0 : Hid _ := hv
  clear hv
  k_with_none
  k_with "tb" => (first | assumption | (apply le3; assumption; exact rfl) | lia | (simp only [List.length_append, List.length_cons, List.length_nil, List.length_take, List.length_drop, List.length_dropLast, crs_len, partOf_len] at *; lia) | ((with_reducible refine Nat.le_trans (crlf_len _) ?_); tb_start) | ((with_reducible refine Nat.le_trans (split_len _) ?_); tb_start) | ((with_reducible refine Nat.le_trans (norm_len _) ?_); tb_start))
  k_with "call builtin:str.count" => (refine count4 (by decide +kernel) (by first | assumption | lia) ?_)
  k_with "call builtin:str.rfind" => (refine rfind4 (by decide +kernel) (by first | assumption | lia) ?_)
  k_with "call builtin:str.replace" => ((try dsimp only at *); k_dflt (refine repl_crlf_S (by decide +kernel) (by decide +kernel) (by k_ne) (by k_ne) (by k_ne) (by tb_start) ?_); intro _ _ _)
  k_with "call builtin:str.replace" => ((try dsimp only at *); k_dflt (refine repl_cr_S (by decide +kernel) (by decide +kernel) (by k_ne) (by k_ne) (by k_ne) (by tb_start) ?_); intro _ _ _)
  k_with "call builtin:len" => ((with_reducible show wpAny _ _ (call (Value.builtin "len") [Value.str (S _) _]) _ _ _); refine len_S (by tb_start) ?_)
  k_with "call builtin:ord" => ((with_reducible show wpAny _ _ (call (Value.builtin "ord") [Value.str (S _) _]) _ _ _); refine ord_S ?_)
  k_with "binaryOp Add str str" => ((with_reducible show wpAny _ _ (binaryOp Operator.Add (Value.str (S _) _) (Value.str (S _) _)) _ _ _); refine add_S (by tb_start) ?_; intro _ _)
  k_with "inplaceOp Add str str" => ((with_reducible show wpAny _ _ (inplaceOp Operator.Add (Value.str (S _) _) (Value.str (S _) _)) _ _ _); refine iadd_S (by tb_start) ?_; intro _ _)
  k_with "truthy str" => ((with_reducible show wpAny _ _ (truthy (Value.str (S _) _)) _ _ _); refine truthy_S (by tb_start) ?_)
  k_with "compareOp Eq str str" => ((with_reducible show wpAny _ _ (compareOp CmpOp.Eq (Value.str (S _) _) (Value.str (S _) _)) _ _ _); refine eq_S ?_)
  k_with "compareOp NotEq str str" => ((with_reducible show wpAny _ _ (compareOp CmpOp.NotEq (Value.str (S _) _) (Value.str (S _) _)) _ _ _); refine ne_S ?_)
  k_with "subscriptTail Name Slice str ref" => (k_here; (with_reducible rename Fr _ _ _ _ => F'); (with_reducible rename News _ _ _ _ => N'); k_dflt (refine drop_S (s := ⟨_, _, _, _, _⟩) F' N' (by tb_start) ?_); intro _ _ _ _ _; (try k_sweep))
  k_with "subscriptTail Name Slice str ref" => (k_here; (with_reducible rename Fr _ _ _ _ => F'); (with_reducible rename News _ _ _ _ => N'); k_dflt (refine take_S (s := ⟨_, _, _, _, _⟩) F' N' (by tb_start) ?_); intro _ _ _ _ _; (try k_sweep))
  k_with "subscriptTail Name Slice str ref" => (k_here; (with_reducible rename Fr _ _ _ _ => F'); (with_reducible rename News _ _ _ _ => N'); k_dflt (refine mid_S (s := ⟨_, _, _, _, _⟩) F' N' (by tb_start) ?_); intro _ _ _ _ _; (try k_sweep))
  k_with "subscriptTail Name Slice str ref" => (k_here; (with_reducible rename Fr _ _ _ _ => F'); (with_reducible rename News _ _ _ _ => N'); k_dflt (refine part_S (s := ⟨_, _, _, _, _⟩) F' N' (by tb_start) ?_); intro _ _ _ _ _; (try k_sweep))
  k_with "subscriptTail Name Slice str ref" => (k_here; (with_reducible rename Fr _ _ _ _ => F'); (with_reducible rename News _ _ _ _ => N'); k_dflt (refine init_S (s := ⟨_, _, _, _, _⟩) F' N' (by tb_start) ?_); intro _ _ _ _ _; (try k_sweep))
  k_with "subscriptTail Name UnaryOp str int" => (k_here; (with_reducible show wpAny _ _ (subscriptTail _ _ (Value.str (S _) _) (Value.int _ _)) _ _ _); k_dflt (first | (refine last_S (by first | assumption | (intro hz; simp only [hz, List.length_nil] at *; lia)) (by tb_start) ?_) | (refine item_S (by first | assumption | lia | k_extra "my item") (by tb_start) ?_)))
  k_with "subscriptTail Name Name str int" => (k_here; (with_reducible show wpAny _ _ (subscriptTail _ _ (Value.str (S _) _) (Value.int _ _)) _ _ _); first | (with_reducible refine item_S (by k_dflt (first | assumption | lia | k_extra "my item")) (by k_dflt tb_start) ?_) | k_dflt (refine item_Si (by lia) (by first | lia | k_extra "my item") (by tb_start) ?_))
  k_with "subscriptTail Name Constant str int" => (k_here; (with_reducible show wpAny _ _ (subscriptTail _ _ (Value.str (S _) _) (Value.int _ _)) _ _ _); first | (with_reducible refine item_S (by k_dflt (first | assumption | lia | k_extra "my item")) (by k_dflt tb_start) ?_) | k_dflt (refine item_Si (by lia) (by first | lia | k_extra "my item") (by tb_start) ?_))
  k_with "subscriptTail Name BinOp str int" => (k_here; (with_reducible show wpAny _ _ (subscriptTail _ _ (Value.str (S _) _) (Value.int _ _)) _ _ _); first | (with_reducible refine item_S (by k_dflt (first | assumption | lia | k_extra "my item")) (by k_dflt tb_start) ?_) | k_dflt (refine item_Si (by lia) (by first | lia | k_extra "my item") (by tb_start) ?_))
  k_with "subscriptTail Attribute Name str int" => (k_here; (with_reducible show wpAny _ _ (subscriptTail _ _ (Value.str (S _) _) (Value.int _ _)) _ _ _); first | (with_reducible refine item_S (by k_dflt (first | assumption | lia | k_extra "my item")) (by k_dflt tb_start) ?_) | k_dflt (refine item_Si (by lia) (by first | lia | k_extra "my item") (by tb_start) ?_))
  k_with "subscriptTail Attribute Constant str int" => (k_here; (with_reducible show wpAny _ _ (subscriptTail _ _ (Value.str (S _) _) (Value.int _ _)) _ _ _); first | (with_reducible refine item_S (by k_dflt (first | assumption | lia | k_extra "my item")) (by k_dflt tb_start) ?_) | k_dflt (refine item_Si (by lia) (by first | lia | k_extra "my item") (by tb_start) ?_))
  k_with "subscriptTail Attribute Attribute str int" => (k_here; (with_reducible show wpAny _ _ (subscriptTail _ _ (Value.str (S _) _) (Value.int _ _)) _ _ _); first | (with_reducible refine item_S (by k_dflt (first | assumption | lia | k_extra "my item")) (by k_dflt tb_start) ?_) | k_dflt (refine item_Si (by lia) (by first | lia | k_extra "my item") (by tb_start) ?_))
  k_with "truthy ref" => (k_here; k_dflt (refine' truthy_meth ?N ?q ?_; (case N => k_asm); (case q => k_mem); k_whole))
  k_with "exec For Name Name cons nil" => (k_here; (with_reducible rename Fr _ _ _ _ => lF'); k_dflt (refine' For_invVF lF' ?k1 ?k2 ?_; (case k1 => exact rfl); (case k2 => exact rfl); k_whole))
  k_with "exec For Name Subscript cons nil" => (k_here; (with_reducible rename Fr _ _ _ _ => lF'); k_dflt (refine' For_invVF lF' ?k1 ?k2 ?_; (case k1 => exact rfl); (case k2 => exact rfl); k_whole))
  k_with "all" => (refine List.forall_mem_append.mpr ⟨?a, ?b⟩; (case a => k_all); (case b => k_all))
  k_with "rel" => (simp only [List.size_toArray]; rw [PySem.sizeLine_eq]; lia)
  k_with "call builtin:list.append" => (k_here; (with_reducible show wpAny _ _ (call (Value.builtin _) [Value.ref _, _]) _ _ _); k_dflt (refine' append_K ?k1 ?k2 ?k3 ?_ ?z; (case k1 => k_asm); (case k2 => k_asm); (case k3 => k_upd); (case z => tb_rel); k_whole); intro h' F' N'; (try simp only [List.push_toArray] at N'); (try k_sweep))
  k_with "enter" => (refine' code_def ?k1 ?k2 ?k3 ?k4 ?k5 ?kA ?kF ?kK ?k6 ?k7 ?k8 ?k9 ?kB ?_ ?c2 ?c3 ?c4 ?c5; (case kA => exact rfl); (case kF => exact rfl); (case kK => assumption); (case k1 => k_asm); (case k2 => k_asm); (case k3 => k_asm); (case k4 => k_asm); (case k5 => k_asm); (case k6 => k_is); (case k7 => k_is); (case k8 => ktr_room); (case k9 => first | exact BindsTo.of_eq rfl | exact binds_K (by k_in) rfl (by k_is) rfl rfl rfl); (case c5 => decide); (case kB => exact locs rfl); (case c2 => exact rfl); (case c3 => exact rfl); (case c4 => exact rfl); k_whole; intro g' L' h' FG' F' N' B' X' T'; (try dsimp only); (try k_lift B'); (try k_fold))
  k_with "JoinP" => (dsimp only [JoinP])
  k_with "subscriptTail" => (k_here; (with_reducible show wpAny _ _ (subscriptTail _ _ (Value.str (S _) _) (Value.int _ _)) _ _ _); first | (with_reducible refine item_S (by k_dflt (first | assumption | lia | k_extra "my item")) (by k_dflt tb_start) ?_) | k_dflt (refine item_Si (by lia) (by first | lia | k_extra "my item") (by tb_start) ?_))
  k_with "compareOp Eq str str" => ((with_reducible show wpAny _ _ (compareOp CmpOp.Eq (Value.str (S _) _) (Value.str (Str.ofString _) _)) _ _ _); k_dflt (first | refine eq_lit [13] (by decide +kernel) ?_ | refine eq_lit [10] (by decide +kernel) ?_))
  k_with "compareOp NotEq str str" => ((with_reducible show wpAny _ _ (compareOp CmpOp.NotEq (Value.str (S _) _) (Value.str (Str.ofString _) _)) _ _ _); k_dflt (first | refine ne_lit [13] (by decide +kernel) ?_ | refine ne_lit [10] (by decide +kernel) ?_))
  k_with "inplaceOp Add str str" => ((with_reducible show wpAny _ _ (inplaceOp Operator.Add (Value.str (S _) _) (Value.str (Str.ofString _) _)) _ _ _); k_dflt (refine iadd_lit [10] (by decide +kernel) (by tb_start) ?_); intro _ _)
  k_with "room" => (k_dflt ((first | apply room4 | apply room3 | apply room2 | apply room1 | apply room0 | apply roomz); assumption; exact rfl))
  k_with "getAttr ref" => ((with_reducible show wpAny _ _ (getAttr (Value.ref _) (Str.ofString "chunk") _) _ _ _); k_dflt (refine g_chunk (by assumption) (by k_asm) (by k_asm) ?N ?_; (case N => first | k_asm | exact News.tl (by k_asm) | exact News.tl (News.tl (by k_asm)) | exact News.tl (News.tl (News.tl (by k_asm))))); intro _)
  k_with "getAttr ref" => ((with_reducible show wpAny _ _ (getAttr (Value.ref _) (Str.ofString "chunkSize") _) _ _ _); k_dflt (refine g_size (by assumption) (by k_asm) (by k_asm) ?N ?_; (case N => first | k_asm | exact News.tl (by k_asm) | exact News.tl (News.tl (by k_asm)) | exact News.tl (News.tl (News.tl (by k_asm))))); intro _)
  k_with "getAttr ref" => ((with_reducible show wpAny _ _ (getAttr (Value.ref _) (Str.ofString "chunkOffset") _) _ _ _); k_dflt (refine g_off (by assumption) (by k_asm) (by k_asm) ?N ?_; (case N => first | k_asm | exact News.tl (by k_asm) | exact News.tl (News.tl (by k_asm)) | exact News.tl (News.tl (News.tl (by k_asm))))); intro _)
  k_with "getAttr ref" => ((with_reducible show wpAny _ _ (getAttr (Value.ref _) (Str.ofString "prevNumLines") _) _ _ _); k_dflt (refine g_pl (by assumption) (by k_asm) (by k_asm) ?N ?_; (case N => first | k_asm | exact News.tl (by k_asm) | exact News.tl (News.tl (by k_asm)) | exact News.tl (News.tl (News.tl (by k_asm))))); intro _)
  k_with "getAttr ref" => ((with_reducible show wpAny _ _ (getAttr (Value.ref _) (Str.ofString "prevNumCols") _) _ _ _); k_dflt (refine g_pc (by assumption) (by k_asm) (by k_asm) ?N ?_; (case N => first | k_asm | exact News.tl (by k_asm) | exact News.tl (News.tl (by k_asm)) | exact News.tl (News.tl (News.tl (by k_asm))))); intro _)
  k_with "getAttr ref" => ((with_reducible show wpAny _ _ (getAttr (Value.ref _) (Str.ofString "errors") _) _ _ _); k_dflt (refine g_errors (by assumption) (by k_asm) (by k_asm) ?N ?_; (case N => first | k_asm | exact News.tl (by k_asm) | exact News.tl (News.tl (by k_asm)) | exact News.tl (News.tl (News.tl (by k_asm))))); intro _ hE1)
  k_with "getAttr ref" => ((with_reducible show wpAny _ _ (getAttr (Value.ref _) (Str.ofString "dataStream") _) _ _ _); k_dflt (refine g_stream (by assumption) (by k_asm) (by k_asm) ?N ?_; (case N => first | k_asm | exact News.tl (by k_asm) | exact News.tl (News.tl (by k_asm)) | exact News.tl (News.tl (News.tl (by k_asm))))); intro _ hT1)
  k_with "getAttr ref" => ((with_reducible show wpAny _ _ (getAttr (Value.ref _) (Str.ofString "_bufferedCharacter") _) _ _ _); k_dflt (refine g_buf (by assumption) (by k_asm) (by k_asm) ?N ?_; (case N => first | k_asm | exact News.tl (by k_asm) | exact News.tl (News.tl (by k_asm)) | exact News.tl (News.tl (News.tl (by k_asm))))); intro _ hB1; (try cases hB1))
  k_with "getAttr ref" => ((with_reducible show wpAny _ _ (getAttr (Value.ref _) (Str.ofString "reportCharacterErrors") _) _ _ _); k_dflt (refine g_rep (by assumption) (by k_asm) (by k_asm) ?N ?_; (case N => first | k_asm | exact News.tl (by k_asm) | exact News.tl (News.tl (by k_asm)) | exact News.tl (News.tl (News.tl (by k_asm))))); intro _ hR1)
  k_with "getAttr ref" => ((with_reducible show wpAny _ _ (getAttr (Value.ref _) (Str.ofString "_defaultChunkSize") _) _ _ _); k_dflt (refine g_dflt (by assumption) (by k_asm) (by k_asm) ?N ?_; (case N => first | k_asm | exact News.tl (by k_asm) | exact News.tl (News.tl (by k_asm)) | exact News.tl (News.tl (News.tl (by k_asm))))); intro _)
  k_with "getAttr ref" => ((with_reducible show wpAny _ _ (getAttr (Value.ref _) (Str.ofString "text") _) _ _ _); k_dflt (refine g_text (by assumption) (by assumption) (by k_asm) (by k_asm) ?N ?_; (case N => first | k_asm | exact News.tl (by k_asm) | exact News.tl (News.tl (by k_asm)) | exact News.tl (News.tl (News.tl (by k_asm))))); intro _)
  k_with "getAttr ref" => ((with_reducible show wpAny _ _ (getAttr (Value.ref _) (Str.ofString "place") _) _ _ _); k_dflt (refine g_place (by assumption) (by assumption) (by k_asm) (by k_asm) ?N ?_; (case N => first | k_asm | exact News.tl (by k_asm) | exact News.tl (News.tl (by k_asm)) | exact News.tl (News.tl (News.tl (by k_asm))))); intro _)
  k_with "setAttr ref" => ((with_reducible show wpAny _ _ (setAttr (Value.ref _) (Str.ofString "chunk") _) _ _ _); (with_reducible rename LedR _ _ _ _ _ _ _ _ _ _ _ _ _ _ => hLo); k_dflt (refine s_chunk hLo (by k_asm) (by k_asm) ?N ?_; (case N => first | k_asm | exact News.tl (by k_asm) | exact News.tl (News.tl (by k_asm)) | exact News.tl (News.tl (News.tl (by k_asm))))); intro h' n' F' N' hL'; (try k_sweep); clear hLo)
  k_with "setAttr ref" => ((with_reducible show wpAny _ _ (setAttr (Value.ref _) (Str.ofString "chunk") (Value.str (Str.ofString "") _)) _ _ _); (with_reducible rename LedR _ _ _ _ _ _ _ _ _ _ _ _ _ _ => hLo); k_dflt (refine s_chunk0 hLo (by k_asm) (by k_asm) ?N ?_; (case N => first | k_asm | exact News.tl (by k_asm) | exact News.tl (News.tl (by k_asm)) | exact News.tl (News.tl (News.tl (by k_asm))))); intro h' n' F' N' hL'; (try k_sweep); clear hLo)
  k_with "setAttr ref" => ((with_reducible show wpAny _ _ (setAttr (Value.ref _) (Str.ofString "chunkSize") _) _ _ _); (with_reducible rename LedR _ _ _ _ _ _ _ _ _ _ _ _ _ _ => hLo); k_dflt (refine s_size hLo (by k_asm) (by k_asm) ?N ?_; (case N => first | k_asm | exact News.tl (by k_asm) | exact News.tl (News.tl (by k_asm)) | exact News.tl (News.tl (News.tl (by k_asm))))); intro h' n' F' N' hL'; (try k_sweep); clear hLo)
  k_with "setAttr ref" => ((with_reducible show wpAny _ _ (setAttr (Value.ref _) (Str.ofString "chunkOffset") _) _ _ _); (with_reducible rename LedR _ _ _ _ _ _ _ _ _ _ _ _ _ _ => hLo); k_dflt (refine s_off hLo (by k_asm) (by k_asm) ?N ?_; (case N => first | k_asm | exact News.tl (by k_asm) | exact News.tl (News.tl (by k_asm)) | exact News.tl (News.tl (News.tl (by k_asm))))); intro h' n' F' N' hL'; (try k_sweep); clear hLo)
  k_with "setAttr ref" => ((with_reducible show wpAny _ _ (setAttr (Value.ref _) (Str.ofString "prevNumLines") _) _ _ _); (with_reducible rename LedR _ _ _ _ _ _ _ _ _ _ _ _ _ _ => hLo); k_dflt (refine s_pl hLo (by k_asm) (by k_asm) ?N ?_; (case N => first | k_asm | exact News.tl (by k_asm) | exact News.tl (News.tl (by k_asm)) | exact News.tl (News.tl (News.tl (by k_asm))))); intro h' n' F' N' hL'; (try k_sweep); clear hLo)
  k_with "setAttr ref" => ((with_reducible show wpAny _ _ (setAttr (Value.ref _) (Str.ofString "prevNumCols") _) _ _ _); (with_reducible rename LedR _ _ _ _ _ _ _ _ _ _ _ _ _ _ => hLo); k_dflt (refine s_pc hLo (by k_asm) (by k_asm) ?N ?_; (case N => first | k_asm | exact News.tl (by k_asm) | exact News.tl (News.tl (by k_asm)) | exact News.tl (News.tl (News.tl (by k_asm))))); intro h' n' F' N' hL'; (try k_sweep); clear hLo)
  k_with "setAttr ref" => ((with_reducible show wpAny _ _ (setAttr (Value.ref _) (Str.ofString "_bufferedCharacter") _) _ _ _); (with_reducible rename LedR _ _ _ _ _ _ _ _ _ _ _ _ _ _ => hLo); k_dflt (refine s_buf (by first | exact BufIs.none | exact BufIs.some | assumption) hLo (by k_asm) (by k_asm) ?N ?_; (case N => first | k_asm | exact News.tl (by k_asm) | exact News.tl (News.tl (by k_asm)) | exact News.tl (News.tl (News.tl (by k_asm))))); intro h' n' F' N' hL'; (try k_sweep); clear hLo)
  k_with "setAttr ref" => ((with_reducible show wpAny _ _ (setAttr (Value.ref _) (Str.ofString "place") _) _ _ _); (with_reducible rename LedR _ _ _ _ _ _ _ _ _ _ _ _ _ _ => hLo); k_dflt (refine s_place hLo (by assumption) (by k_asm) (by k_asm) ?N ?_; (case N => first | k_asm | exact News.tl (by k_asm) | exact News.tl (News.tl (by k_asm)) | exact News.tl (News.tl (News.tl (by k_asm))))); intro h' n' F' N' hL'; (try k_sweep); clear hLo)
  k_with "getMethod ref" => ((with_reducible show wpAny _ _ (getMethod (Value.ref _) (Str.ofString "_position") _) _ _ _); k_dflt (refine m_pos_ (by assumption) (by k_asm) (by k_asm) ?N ?_; (case N => first | k_asm | exact News.tl (by k_asm) | exact News.tl (News.tl (by k_asm)) | exact News.tl (News.tl (News.tl (by k_asm))))))
  k_with "getMethod ref" => ((with_reducible show wpAny _ _ (getMethod (Value.ref _) (Str.ofString "position") _) _ _ _); k_dflt (refine m_pos (by assumption) (by k_asm) (by k_asm) ?N ?_; (case N => first | k_asm | exact News.tl (by k_asm) | exact News.tl (News.tl (by k_asm)) | exact News.tl (News.tl (News.tl (by k_asm))))))
  k_with "getMethod ref" => ((with_reducible show wpAny _ _ (getMethod (Value.ref _) (Str.ofString "char") _) _ _ _); k_dflt (refine m_char (by assumption) (by k_asm) (by k_asm) ?N ?_; (case N => first | k_asm | exact News.tl (by k_asm) | exact News.tl (News.tl (by k_asm)) | exact News.tl (News.tl (News.tl (by k_asm))))))
  k_with "getMethod ref" => ((with_reducible show wpAny _ _ (getMethod (Value.ref _) (Str.ofString "readChunk") _) _ _ _); k_dflt (refine m_chunk (by assumption) (by k_asm) (by k_asm) ?N ?_; (case N => first | k_asm | exact News.tl (by k_asm) | exact News.tl (News.tl (by k_asm)) | exact News.tl (News.tl (News.tl (by k_asm))))))
  k_with "getMethod ref" => ((with_reducible show wpAny _ _ (getMethod (Value.ref _) (Str.ofString "unget") _) _ _ _); k_dflt (refine m_unget (by assumption) (by k_asm) (by k_asm) ?N ?_; (case N => first | k_asm | exact News.tl (by k_asm) | exact News.tl (News.tl (by k_asm)) | exact News.tl (News.tl (News.tl (by k_asm))))))
  k_with "getMethod ref" => ((with_reducible show wpAny _ _ (getMethod (Value.ref _) (Str.ofString "charsUntil") _) _ _ _); k_dflt (refine m_until (by assumption) (by k_asm) (by k_asm) ?N ?_; (case N => first | k_asm | exact News.tl (by k_asm) | exact News.tl (News.tl (by k_asm)) | exact News.tl (News.tl (News.tl (by k_asm))))))
  k_with "getMethod ref" => ((with_reducible show wpAny _ _ (getMethod (Value.ref _) (Str.ofString "read") _) _ _ _); k_dflt (refine m_read (by assumption) (by assumption) (by k_asm) (by k_asm) ?N ?_; (case N => first | k_asm | exact News.tl (by k_asm) | exact News.tl (News.tl (by k_asm)) | exact News.tl (News.tl (News.tl (by k_asm))))))
  k_with "getMethod ref" => ((with_reducible show wpAny _ _ (getMethod (Value.ref _) (Str.ofString "reportCharacterErrors") _) _ _ _); k_dflt (refine m_rep (by assumption) (by k_asm) (by k_asm) ?N ?_; (case N => first | k_asm | exact News.tl (by k_asm) | exact News.tl (News.tl (by k_asm)) | exact News.tl (News.tl (News.tl (by k_asm))))); intro _ hR1)
  k_with "getMethod ref" => ((with_reducible show wpAny _ _ (getMethod (Value.ref _) (Str.ofString "append") _) _ _ _); k_dflt (refine m_append (by assumption) (by assumption) (by k_asm) (by k_asm) ?N ?_; (case N => first | k_asm | exact News.tl (by k_asm) | exact News.tl (News.tl (by k_asm)) | exact News.tl (News.tl (News.tl (by k_asm))))))
  k_with "call builtin:list.append" => ((with_reducible rename LedR _ _ _ _ _ _ _ _ _ _ _ _ _ _ => hLo); k_dflt (refine app_err hLo (by assumption) (by k_asm) (by k_asm) ?N (by lia) ?_; (case N => first | k_asm | exact News.tl (by k_asm) | exact News.tl (News.tl (by k_asm)) | exact News.tl (News.tl (News.tl (by k_asm))))); intro h' n' F' N' hL'; (try k_sweep); clear hLo)
  k_with "exec While" => ((with_reducible show wpAny _ _ (exec (Stmt.While (Expr.Constant _ _ _) _ _ _) _) _ _ _); (with_reducible rename Fr _ _ _ _ => F9); (with_reducible rename News _ _ _ _ => N9); (obtain ⟨D9, hD9, n2, hL2, N2, hD0⟩ := LedR.push3 (o := W.listOf [].toArray 0) hL (by assumption) N9); subst hD9; (clear N9 hL); k_dflt ((refine' while_m (UJ w R P b st' l rest ad x D9) n F9 N2 ?wj ?wt); (case' wj => exact (mix1 _ _).elim fun u hu => ⟨st, [], l, [], 0, u, hU, rfl, Rv.nil (by lia), hL2, hu⟩); (case' wt => clear F9 N2 hL2 hU; intro k m₁ nx h₁ tk₁ hJ F' N'; (obtain ⟨st1, l1, l2, vs9, nn, u, hU, hl, hRv, hL', hm'⟩ := hJ); subst hm'; (obtain ⟨ok, hU⟩ := hU.inv); (obtain ⟨o1, o2, o3, o4, o5, o6⟩ := ok); ((have hY := run_facts (P := P) (b := b) (ck := st1.chunk) (of := st1.off) (by lia)); (obtain ⟨run, hrun⟩ : ∃ run, runL P b (List.drop st1.off st1.chunk) = run := ⟨_, rfl⟩); (rw [hrun] at hU hY); (have hs0 : st1.off + run.length ≤ st1.chunk.length := by rcases hU with ⟨h, _⟩ | ⟨h, _⟩ | ⟨h, _⟩ <;> lia); (obtain ⟨hyes, hno, htk⟩ := hY); (have hc9 : ∀ i, i < st1.chunk.length → st1.chunk.getD i 0 < 1114112 := fun i hi => o6 _ (getD_mem hi)); (obtain ⟨ck, of, er, pl, pc, bf, pla⟩ := st1); (unfold LedIs at hL'); (dsimp only at *); (try k_fold)))))
  k_with "exec While" => ((with_reducible show wpAny _ _ (exec (Stmt.While (Expr.BoolOp _ _ _) _ _ _) _) _ _ _); (with_reducible rename Fr _ _ _ _ => F9); (with_reducible rename News _ _ _ _ => N9); (with_reducible rename LedR _ _ _ _ _ _ _ _ _ _ _ _ _ _ => hLo); k_dflt ((refine while_j (fun m₀ n m' nx => ∃ j : Nat, j + n = run.length ∧ (∃ t : Tok, m' = fun z => if z = Str.ofString "end" then some (.int ((of + j : Nat) : Int) t) else m₀ z) ∧ LedR w R ((D9, W.listOf vs9.toArray nn) :: rest) ad x ck (ck.length : Int) (of : Int) er (pl : Int) (pc : Int) bf (pla : Int) nx) run.length F9 N9 (fun m' nw => (∃ t : Tok, m' = fun z => if z = Str.ofString "end" then some (.int ((of + run.length : Nat) : Int) t) else if z = Str.ofString "rv" then some (Value.ref D9) else List.lookup z [(Str.ofString "opposite", Value.bool b), (Str.ofString "characters", cv), (Str.ofString "self", Value.ref x)]) ∧ LedR w R ((D9, W.listOf vs9.toArray nn) :: rest) ad x ck (ck.length : Int) (of : Int) er (pl : Int) (pc : Int) bf (pla : Int) nw) ⟨0, by lia, set1 ⟨_, rfl⟩ (fun z hz => rfl), hLo⟩ ?_ ?_) <;> (clear F9 N9 hLo; first | (intro n9 m₁ nx h₁ tk₁ hJ F' N'; (obtain ⟨j, hjn, ⟨tj, hm'⟩, hL'⟩ := hJ); subst hm'; (rcases Nat.lt_or_ge j run.length with hj | hj) <;> (dsimp only at *; (try k_fold))) | (intro h9 tk9 m9 nw9 hP9 F' N'; (obtain ⟨⟨t9, hm'⟩, hL'⟩ := hP9); subst hm'; clear hyes hno; (obtain ⟨e, he⟩ : ∃ e, of + run.length = e := ⟨_, rfl⟩); (rw [he] at F'); (have htk := htk run.length (by lia)); (rw [he] at htk); (rcases hU with ⟨hs, hl2, hst⟩ | hU2) <;> ((first | (replace hst := hst.symm; subst hst; replace hl2 := hl2.symm; subst hl2) | (obtain ⟨hs, hU2⟩ := and_or_left.mpr hU2)); (rcases Nat.eq_zero_or_pos run.length with h0 | h0) <;> (dsimp only at *; (try k_fold)))))))
  k_with "JoinN" => (k_dflt ((obtain rfl : j = run.length := by lia); refine join_end (by assumption) (by assumption) (Nat.zero_le _) ⟨set1 ⟨_, rfl⟩ (fun z hz => (by repeat (first | with_reducible rfl | refine (if_neg (by assumption)).trans ?_ | rfl))), by assumption⟩))
  k_with "ite" => ((first | (with_reducible show if ((_ : Int) == _) = true then _ else _) | (with_reducible show if ((_ : Int) != _) = true then _ else _)); k_dflt (first | refine ite_pos (by simp only [beq_iff_eq, bne_iff_ne, ne_eq]; lia) ?_ | refine ite_neg (by simp only [beq_iff_eq, bne_iff_ne, ne_eq]; lia) ?_))
  k_with "compareOp In str" => ((with_reducible show wpAny _ _ (compareOp CmpOp.In (Value.str (S [_]) _) _) _ _ _); (with_reducible rename News _ _ _ _ => N9); (with_reducible rename LedR _ _ _ _ _ _ _ _ _ _ _ _ _ _ => hLo); k_dflt (refine hIn _ _ _ _ _ _ _ _ _ N9 (fun p hp => LedR.mem_rest hLo (.tail _ hp)) (hc9 _ (by lia)) (by ke_room) ?_); intro tk9 htk9; clear htk9; k_dflt (first | rw [hyes j (by lia)] | rw [hno j (by lia) (by lia)]))
  k_with "compareOp Eq bool bool" => (k_dflt (refine eq_bool ?_); first | rw [beq_self_eq_true] | rw [not_beq])
  k_with "WhileStep2" => ((with_reducible show WhileStep2 _ _ _ _ _ _ Flow.brk _); dsimp only [WhileStep2])
  k_with "WhileStep2" => ((with_reducible show WhileStep2 _ _ _ _ _ _ Flow.next _); k_dflt (refine wstep_end (n' := k2) (by assumption) (by assumption) (by lia) ⟨_, _, l3, _, _, _, hU3, by rw [List.append_assoc]; exact hl, hRv, by assumption, rfl⟩))
  k_with "WhileStep2" => ((with_reducible show WhileStep2 _ _ _ _ _ _ Flow.next _); k_dflt (refine wstep_end (n' := n9 - 1) (by assumption) (by first | assumption | exact News.tl (by assumption)) (by lia) ⟨j + 1, by lia, set1 ⟨_, int_eq (show ((of + j : Nat) : Int) + 1 = ((of + (j + 1) : Nat) : Int) by lia)⟩ (fun z hz => (by repeat (first | with_reducible rfl | refine (if_neg (by assumption)).trans ?_ | rfl))), by assumption⟩))
  k_with "getMethod ref" => ((with_reducible show wpAny _ _ (getMethod (Value.ref _) (Str.ofString "append") _) _ _ _); k_dflt (refine m_rv (by assumption) (by k_asm) (by k_asm) (by k_asm) ?_))
  k_with "call builtin:list.append" => ((with_reducible show wpAny _ _ (call (Value.builtin _) [Value.ref _, Value.str (S _) _]) _ _ _); (with_reducible rename LedR _ _ _ _ _ _ _ _ _ _ _ _ _ _ => hLo); k_dflt (refine app_rv2 hLo hD0 hRv (by first | (rw [htk]; lia) | (rw [List.length_drop]; lia)) (by k_asm) (by k_asm) ?_); (clear hLo hRv); intro h' n' nn2 vs2 hRv F' N' hL'; (try k_sweep); (try rw [htk] at hRv))
  k_with "call ref" => ((with_reducible show wpAny _ _ (call (Value.ref 106) _) _ _ _); (with_reducible rename LedR _ _ _ _ _ _ _ _ _ _ _ _ _ _ => hLo); k_dflt ((refine' Spec.use (chunk0_spec (st := ⟨ck, of, er, pl, pc, bf, pla⟩) hLo o1 o2 (by dsimp only; lia) o4) ?B ?F ?X ?N ?T ?hk ?hd ?hu ?_); (case B => k_asm); (case F => k_asm); (case X => k_asm); (case T => k_asm); (case hk => first | exact rfl | assumption); (case N => first | k_asm | exact News.tl (by k_asm) | exact News.tl (News.tl (by k_asm)) | exact News.tl (News.tl (News.tl (by k_asm)))); (case hd => ktr_room); (case hu => ktr_units); (intro r' n' h' tk' hR' hle' F' N'); (clear hLo); (rcases hU2 with ⟨hdd, hl2, hst⟩ | ⟨hdd, k2, l3, hk2, hl2, hU3⟩) <;> ((try (replace hst := hst.symm; subst hst)); (replace hl2 := hl2.symm; subst hl2); (try subst hk2); (first | rw [decide_eq_true hdd] at hR' | rw [decide_eq_false (fun h => h hdd)] at hR'); (obtain ⟨hr', hL'⟩ := hR'); subst hr'; (try dsimp only); (try k_fold))))
  k_with "call builtin:str.join" => ((with_reducible rename LedR _ _ _ _ _ _ _ _ _ _ _ _ _ _ => hLo); k_dflt (refine join_R hRv of_empty (News.isList (by k_asm) (LedR.mem_rest hLo (.head _))) ?_); intro t9 k9)
  k_dflt (refine' code_def (binds := [(Str.ofString "self", Value.ref x), (Str.ofString "characters", cv), (Str.ofString "opposite", .bool b)]) ?k1 ?k2 ?k3 ?k4 ?k5 ?kA ?kF ?kK ?k6 ?k7 ?k8 ?k9 ?kB ?_ ?c2 ?c3 ?c4 ?c5; (case kA => exact rfl); (case kF => exact rfl); (case kK => assumption); (case k1 => k_asm); (case k2 => k_asm); (case k3 => k_asm); (case k4 => k_asm); (case k5 => k_asm); (case k6 => k_is); (case k7 => k_is); (case k8 => ktr_room); (case k9 => unfold Hid at hv0; rcases hv0 with h1 | ⟨h1, h2⟩ <;> subst h1 <;> (try subst h2) <;> first | exact BindsTo.of_eq rfl | exact binds_K (by k_in) rfl (by k_is) rfl rfl rfl); (case c5 => decide); (case kB => exact locs rfl); (case c2 => exact rfl); (case c3 => exact rfl); (case c4 => exact rfl); k_whole; intro g' L' h' FG' F' N' B' X' T'; (try dsimp only); (try k_lift B'); (try k_fold))
  (rename Fr _ _ _ _ => F1)
  (with_unfolding_all change Fr _ _ _ (fun y => List.lookup y [(Str.ofString "opposite", Value.bool b), (Str.ofString "characters", cv), (Str.ofString "self", Value.ref x)]) at F1)
  k_steps
  all_goals (
    obtain ⟨nf, hf, hsub⟩ := LedR.pop (by assumption)
    refine hret _ _ _ _ ⟨⟨_, congrArg (fun z => Value.str (S z) _) ?_⟩, ?_⟩ (by assumption) (News.sub (by assumption) hsub)
    · first
      | exact hl
      | (have hz := List.eq_nil_of_length_eq_zero h0; subst hz; rw [← hl, List.append_nil])
    · refine LedR.eq hf rfl rfl ?_ rfl rfl rfl rfl rfl
      first | rfl | (dsimp only; lia))
end
section
variable {w : World} {mean : ExcName → Option Value} {mg mb : Str → Option Value} {f : Addr} {vs : List Value} {dd uu : Nat} {news : List (Addr × Obj)} {dp un : Nat} {gd : Option (List Code)} {cn : Str} {cs : Scope} {a : Addr} {ccd : Value} {cl : List (Str × Addr)} {outer : List Env} {A₀ : Around} {base h₀ : Heap} {L : Addr} {m : Str → Option Value} {s : Shared} {Q E : Value → Shared → Prop}
theorem Spec.useStops {P : List (Addr × Obj) → Nat → Value → Prop} {n : Nat}
    (H : Spec w mean mg mb f vs dd uu news (fun v nw => ∃ (D : Nat) (vs : List Value), v = .ref D ∧ (D, W.listOf vs.toArray 0) ∈ nw ∧ (∀ p ∈ news, p ∈ nw) ∧ vs.length = n ∧ ∀ i v, vs[i]? = some v → P nw i v)) (B : Below A₀ base outer h₀) (F : Fr h₀ L s.heap m) (X : (hd05.heap_39 w.params).In h₀) (N : News h₀ L s.heap news) (T : Top hd05.view_39 loose mean mg mb h₀) (hk : cs.kind = .function) (hd : dp + dd < recursionLimit) (hu : un + uu < cLine)
    (k : ∀ (D : Nat) (vs : List Value) (n' : List (Addr × Obj)) (h' : Heap) (tk' : Nat), (D, W.listOf vs.toArray 0) ∈ n' → (∀ p ∈ news, p ∈ n') → vs.length = n → (∀ i v, vs[i]? = some v → P n' i v) → s.toks ≤ tk' → Fr h₀ L h' m → News h₀ L h' n' → Q (.ref D) { s with heap := h', toks := tk' }) :
    wpAny (model PySem.Challenge.pw_te0074_05 w) (ktrTop dp un gd cn cs L a ccd cl outer) (call (.ref f) vs) Q E s :=
  Spec.use H B F X N T hk hd hu fun _ _ h' tk' hR hle F' N' => by
    obtain ⟨D, vs, rfl, h1, h2, h3, h4⟩ := hR
    exact k D vs _ h' tk' h1 h2 h3 h4 hle F' N'
theorem Spec.useList {l : List Str}
    (H : Spec w mean mg mb f vs dd uu news (fun v nw => ∃ (D : Nat) (vs : List Value) (nn : Nat), v = .ref D ∧ (∀ q ∈ news, q.1 < D) ∧ nw = (D, W.listOf vs.toArray nn) :: news ∧ StrsAre vs l)) (B : Below A₀ base outer h₀) (F : Fr h₀ L s.heap m) (X : (hd05.heap_39 w.params).In h₀) (N : News h₀ L s.heap news) (T : Top hd05.view_39 loose mean mg mb h₀) (hk : cs.kind = .function) (hd : dp + dd < recursionLimit) (hu : un + uu < cLine)
    (k : ∀ (D : Nat) (vs : List Value) (nn : Nat) (h' : Heap) (tk' : Nat), (∀ q ∈ news, q.1 < D) → StrsAre vs l → s.toks ≤ tk' → Fr h₀ L h' m → News h₀ L h' ((D, W.listOf vs.toArray nn) :: news) → Q (.ref D) { s with heap := h', toks := tk' }) :
    wpAny (model PySem.Challenge.pw_te0074_05 w) (ktrTop dp un gd cn cs L a ccd cl outer) (call (.ref f) vs) Q E s :=
  Spec.use H B F X N T hk hd hu fun _ _ h' tk' hR hle F' N' => by
    obtain ⟨D, vs, nn, rfl, h1, rfl, h2⟩ := hR
    exact k D vs nn h' tk' h1 h2 hle F' N'
end
theorem led0_endA {h₀ h' : Heap} {L : Addr} {m' : Str → Option Value} {news own : List (Addr × Obj)} {adr : List Addr} {J : (Str → Option Value) → List (Addr × Obj) → Prop} {s₁ : Shared} {tk : Nat} (F : Fr h₀ L h' m') (N : News h₀ L h' (news ++ own)) (ha : news.map (·.1) = adr) (hj : J m' news) :
    InvEndN h₀ L J own adr s₁ { s₁ with heap := h', toks := tk } :=
  InvEndN.intro F N hj ha (fun p hp => List.mem_append.mpr (.inl hp)) (fun p hp => List.mem_append.mpr (.inr hp))
theorem name_new {h₀ h : Heap} {L : Addr} {D : Nat} {o : Obj} {news : List (Addr × Obj)} (N : News h₀ L h ((D, o) :: news)) : ∃ D' : Nat, D' = D ∧ News h₀ L h ((D', o) :: news) := ⟨D, rfl, N⟩
section
variable {w : World} {mean : ExcName → Option Value} {mg mb : Str → Option Value} {news : List (Addr × Obj)}
/-- a tuple of signs in the ledger -/
def StopIs (news nw : List (Addr × Obj)) (v : Value) (l : List Nat) : Prop := ∃ (T : Nat) (ts : List Value), v = .ref T ∧ (T, tup ts) ∈ nw ∧ (∀ q ∈ news, q.1 < T) ∧ StrsAre ts (sg l)
set_option maxRecDepth 100000 in
set_option maxHeartbeats 8000000 in
theorem stops_spec (news : List (Addr × Obj)) :
    Spec w mean mg mb 143 [] 5 40 news (fun v nw => ∃ (D : Nat) (vs : List Value), v = .ref D ∧ (D, W.listOf vs.toArray 0) ∈ nw ∧ (∀ p ∈ news, p ∈ nw) ∧ vs.length = 6 ∧ ∀ i v, vs[i]? = some v → StopIs news nw v (SS5.getD i [])) := by
  refine Spec.of ?_
  intro dp un gd cn cs a ccd cl outer A₀ base h₀ L m s Q E B F X N T hk hd hu hret
  k_with_none
  k_with "tb" => (first | assumption | (apply le3; assumption; exact rfl) | lia | (simp only [List.length_append, List.length_cons, List.length_nil, List.length_take, List.length_drop, List.length_dropLast, crs_len, partOf_len] at *; lia) | ((with_reducible refine Nat.le_trans (crlf_len _) ?_); tb_start) | ((with_reducible refine Nat.le_trans (split_len _) ?_); tb_start) | ((with_reducible refine Nat.le_trans (norm_len _) ?_); tb_start))
  k_with "call builtin:str.count" => (refine count4 (by decide +kernel) (by first | assumption | lia) ?_)
  k_with "call builtin:str.rfind" => (refine rfind4 (by decide +kernel) (by first | assumption | lia) ?_)
  k_with "call builtin:str.replace" => ((try dsimp only at *); k_dflt (refine repl_crlf_S (by decide +kernel) (by decide +kernel) (by k_ne) (by k_ne) (by k_ne) (by tb_start) ?_); intro _ _ _)
  k_with "call builtin:str.replace" => ((try dsimp only at *); k_dflt (refine repl_cr_S (by decide +kernel) (by decide +kernel) (by k_ne) (by k_ne) (by k_ne) (by tb_start) ?_); intro _ _ _)
  k_with "call builtin:len" => ((with_reducible show wpAny _ _ (call (Value.builtin "len") [Value.str (S _) _]) _ _ _); refine len_S (by tb_start) ?_)
  k_with "call builtin:ord" => ((with_reducible show wpAny _ _ (call (Value.builtin "ord") [Value.str (S _) _]) _ _ _); refine ord_S ?_)
  k_with "binaryOp Add str str" => ((with_reducible show wpAny _ _ (binaryOp Operator.Add (Value.str (S _) _) (Value.str (S _) _)) _ _ _); refine add_S (by tb_start) ?_; intro _ _)
  k_with "inplaceOp Add str str" => ((with_reducible show wpAny _ _ (inplaceOp Operator.Add (Value.str (S _) _) (Value.str (S _) _)) _ _ _); refine iadd_S (by tb_start) ?_; intro _ _)
  k_with "truthy str" => ((with_reducible show wpAny _ _ (truthy (Value.str (S _) _)) _ _ _); refine truthy_S (by tb_start) ?_)
  k_with "compareOp Eq str str" => ((with_reducible show wpAny _ _ (compareOp CmpOp.Eq (Value.str (S _) _) (Value.str (S _) _)) _ _ _); refine eq_S ?_)
  k_with "compareOp NotEq str str" => ((with_reducible show wpAny _ _ (compareOp CmpOp.NotEq (Value.str (S _) _) (Value.str (S _) _)) _ _ _); refine ne_S ?_)
  k_with "subscriptTail Name Slice str ref" => (k_here; (with_reducible rename Fr _ _ _ _ => F'); (with_reducible rename News _ _ _ _ => N'); k_dflt (refine drop_S (s := ⟨_, _, _, _, _⟩) F' N' (by tb_start) ?_); intro _ _ _ _ _; (try k_sweep))
  k_with "subscriptTail Name Slice str ref" => (k_here; (with_reducible rename Fr _ _ _ _ => F'); (with_reducible rename News _ _ _ _ => N'); k_dflt (refine take_S (s := ⟨_, _, _, _, _⟩) F' N' (by tb_start) ?_); intro _ _ _ _ _; (try k_sweep))
  k_with "subscriptTail Name Slice str ref" => (k_here; (with_reducible rename Fr _ _ _ _ => F'); (with_reducible rename News _ _ _ _ => N'); k_dflt (refine mid_S (s := ⟨_, _, _, _, _⟩) F' N' (by tb_start) ?_); intro _ _ _ _ _; (try k_sweep))
  k_with "subscriptTail Name Slice str ref" => (k_here; (with_reducible rename Fr _ _ _ _ => F'); (with_reducible rename News _ _ _ _ => N'); k_dflt (refine part_S (s := ⟨_, _, _, _, _⟩) F' N' (by tb_start) ?_); intro _ _ _ _ _; (try k_sweep))
  k_with "subscriptTail Name Slice str ref" => (k_here; (with_reducible rename Fr _ _ _ _ => F'); (with_reducible rename News _ _ _ _ => N'); k_dflt (refine init_S (s := ⟨_, _, _, _, _⟩) F' N' (by tb_start) ?_); intro _ _ _ _ _; (try k_sweep))
  k_with "subscriptTail Name UnaryOp str int" => (k_here; (with_reducible show wpAny _ _ (subscriptTail _ _ (Value.str (S _) _) (Value.int _ _)) _ _ _); k_dflt (first | (refine last_S (by first | assumption | (intro hz; simp only [hz, List.length_nil] at *; lia)) (by tb_start) ?_) | (refine item_S (by first | assumption | lia | k_extra "my item") (by tb_start) ?_)))
  k_with "subscriptTail Name Name str int" => (k_here; (with_reducible show wpAny _ _ (subscriptTail _ _ (Value.str (S _) _) (Value.int _ _)) _ _ _); first | (with_reducible refine item_S (by k_dflt (first | assumption | lia | k_extra "my item")) (by k_dflt tb_start) ?_) | k_dflt (refine item_Si (by lia) (by first | lia | k_extra "my item") (by tb_start) ?_))
  k_with "subscriptTail Name Constant str int" => (k_here; (with_reducible show wpAny _ _ (subscriptTail _ _ (Value.str (S _) _) (Value.int _ _)) _ _ _); first | (with_reducible refine item_S (by k_dflt (first | assumption | lia | k_extra "my item")) (by k_dflt tb_start) ?_) | k_dflt (refine item_Si (by lia) (by first | lia | k_extra "my item") (by tb_start) ?_))
  k_with "subscriptTail Name BinOp str int" => (k_here; (with_reducible show wpAny _ _ (subscriptTail _ _ (Value.str (S _) _) (Value.int _ _)) _ _ _); first | (with_reducible refine item_S (by k_dflt (first | assumption | lia | k_extra "my item")) (by k_dflt tb_start) ?_) | k_dflt (refine item_Si (by lia) (by first | lia | k_extra "my item") (by tb_start) ?_))
  k_with "subscriptTail Attribute Name str int" => (k_here; (with_reducible show wpAny _ _ (subscriptTail _ _ (Value.str (S _) _) (Value.int _ _)) _ _ _); first | (with_reducible refine item_S (by k_dflt (first | assumption | lia | k_extra "my item")) (by k_dflt tb_start) ?_) | k_dflt (refine item_Si (by lia) (by first | lia | k_extra "my item") (by tb_start) ?_))
  k_with "subscriptTail Attribute Constant str int" => (k_here; (with_reducible show wpAny _ _ (subscriptTail _ _ (Value.str (S _) _) (Value.int _ _)) _ _ _); first | (with_reducible refine item_S (by k_dflt (first | assumption | lia | k_extra "my item")) (by k_dflt tb_start) ?_) | k_dflt (refine item_Si (by lia) (by first | lia | k_extra "my item") (by tb_start) ?_))
  k_with "subscriptTail Attribute Attribute str int" => (k_here; (with_reducible show wpAny _ _ (subscriptTail _ _ (Value.str (S _) _) (Value.int _ _)) _ _ _); first | (with_reducible refine item_S (by k_dflt (first | assumption | lia | k_extra "my item")) (by k_dflt tb_start) ?_) | k_dflt (refine item_Si (by lia) (by first | lia | k_extra "my item") (by tb_start) ?_))
  k_with "truthy ref" => (k_here; k_dflt (refine' truthy_meth ?N ?q ?_; (case N => k_asm); (case q => k_mem); k_whole))
  k_with "exec For Name Name cons nil" => (k_here; (with_reducible rename Fr _ _ _ _ => lF'); k_dflt (refine' For_invVF lF' ?k1 ?k2 ?_; (case k1 => exact rfl); (case k2 => exact rfl); k_whole))
  k_with "exec For Name Subscript cons nil" => (k_here; (with_reducible rename Fr _ _ _ _ => lF'); k_dflt (refine' For_invVF lF' ?k1 ?k2 ?_; (case k1 => exact rfl); (case k2 => exact rfl); k_whole))
  k_with "all" => (refine List.forall_mem_append.mpr ⟨?a, ?b⟩; (case a => k_all); (case b => k_all))
  k_with "rel" => (simp only [List.size_toArray]; rw [PySem.sizeLine_eq]; lia)
  k_with "call builtin:list.append" => (k_here; (with_reducible show wpAny _ _ (call (Value.builtin _) [Value.ref _, _]) _ _ _); k_dflt (refine' append_K ?k1 ?k2 ?k3 ?_ ?z; (case k1 => k_asm); (case k2 => k_asm); (case k3 => k_upd); (case z => tb_rel); k_whole); intro h' F' N'; (try simp only [List.push_toArray] at N'); (try k_sweep))
  k_with "enter" => (refine' code_def ?k1 ?k2 ?k3 ?k4 ?k5 ?kA ?kF ?kK ?k6 ?k7 ?k8 ?k9 ?kB ?_ ?c2 ?c3 ?c4 ?c5; (case kA => exact rfl); (case kF => exact rfl); (case kK => assumption); (case k1 => k_asm); (case k2 => k_asm); (case k3 => k_asm); (case k4 => k_asm); (case k5 => k_asm); (case k6 => k_is); (case k7 => k_is); (case k8 => ktr_room); (case k9 => first | exact BindsTo.of_eq rfl | exact binds_K (by k_in) rfl (by k_is) rfl rfl rfl); (case c5 => decide); (case kB => exact locs rfl); (case c2 => exact rfl); (case c3 => exact rfl); (case c4 => exact rfl); k_whole; intro g' L' h' FG' F' N' B' X' T'; (try dsimp only); (try k_lift B'); (try k_fold))
  k_with "JoinP" => (dsimp only [JoinP])
  k_with "subscriptTail" => (k_here; (with_reducible show wpAny _ _ (subscriptTail _ _ (Value.str (S _) _) (Value.int _ _)) _ _ _); first | (with_reducible refine item_S (by k_dflt (first | assumption | lia | k_extra "my item")) (by k_dflt tb_start) ?_) | k_dflt (refine item_Si (by lia) (by first | lia | k_extra "my item") (by tb_start) ?_))
  k_with "compareOp Eq str str" => ((with_reducible show wpAny _ _ (compareOp CmpOp.Eq (Value.str (S _) _) (Value.str (Str.ofString _) _)) _ _ _); k_dflt (first | refine eq_lit [13] (by decide +kernel) ?_ | refine eq_lit [10] (by decide +kernel) ?_))
  k_with "compareOp NotEq str str" => ((with_reducible show wpAny _ _ (compareOp CmpOp.NotEq (Value.str (S _) _) (Value.str (Str.ofString _) _)) _ _ _); k_dflt (first | refine ne_lit [13] (by decide +kernel) ?_ | refine ne_lit [10] (by decide +kernel) ?_))
  k_with "inplaceOp Add str str" => ((with_reducible show wpAny _ _ (inplaceOp Operator.Add (Value.str (S _) _) (Value.str (Str.ofString _) _)) _ _ _); k_dflt (refine iadd_lit [10] (by decide +kernel) (by tb_start) ?_); intro _ _)
  k_with "room" => (k_dflt ((first | apply room4 | apply room3 | apply room2 | apply room1 | apply room0 | apply roomz); assumption; exact rfl))
  k_dflt (k_extra "enter")
  k_steps
  have e0 : sg (SS5.getD 0 []) = [Str.ofString "<", Str.ofString "\n"] := by decide +kernel
  have e1 : sg (SS5.getD 1 []) = [Str.ofString "a", Str.ofString "\n", Str.ofString " "] := by decide +kernel
  have e2 : sg (SS5.getD 2 []) = [] := by decide +kernel
  have e3 : sg (SS5.getD 3 []) = [Str.ofString "\x01", Str.ofString "\ufffe", Str.ofString "a", Str.ofString "b"] := by decide +kernel
  have e4 : sg (SS5.getD 4 []) = [Str.ofString "\n"] := by decide +kernel
  have e5 : sg (SS5.getD 5 []) = [Str.ofString "\x09", Str.ofString "é", Str.ofString "\x00", Str.ofString "<", Str.ofString "a"] := by decide +kernel
  refine hret _ _ _ _ ⟨_, _, rfl, .head _, fun p hp => .tail _ (.tail _ (.tail _ (.tail _ (.tail _ (.tail _ (.tail _ hp)))))), rfl, fun i v hv => ?_⟩ (by assumption) (by assumption)
  match i, hv with
  | 0, hv =>
    obtain rfl := Option.some.inj hv
    exact ⟨_, _, rfl, .tail _ (.tail _ (.tail _ (.tail _ (.tail _ (.tail _ (.head _)))))), by assumption, by rw [e0]; exact .cons _ _ (.cons _ _ .nil)⟩
  | 1, hv =>
    obtain rfl := Option.some.inj hv
    exact ⟨_, _, rfl, .tail _ (.tail _ (.tail _ (.tail _ (.tail _ (.head _))))), kst_ltOf (And.right (by assumption)), by rw [e1]; exact .cons _ _ (.cons _ _ (.cons _ _ .nil))⟩
  | 2, hv =>
    obtain rfl := Option.some.inj hv
    exact ⟨_, _, rfl, .tail _ (.tail _ (.tail _ (.tail _ (.head _)))), kst_ltOf (And.right (And.right (by assumption))), by rw [e2]; exact .nil⟩
  | 3, hv =>
    obtain rfl := Option.some.inj hv
    exact ⟨_, _, rfl, .tail _ (.tail _ (.tail _ (.head _))), kst_ltOf (And.right (And.right (And.right (by assumption)))), by rw [e3]; exact .cons _ _ (.cons _ _ (.cons _ _ (.cons _ _ .nil)))⟩
  | 4, hv =>
    obtain rfl := Option.some.inj hv
    exact ⟨_, _, rfl, .tail _ (.tail _ (.head _)), kst_ltOf (And.right (And.right (And.right (And.right (by assumption))))), by rw [e4]; exact .cons _ _ .nil⟩
  | 5, hv =>
    obtain rfl := Option.some.inj hv
    exact ⟨_, _, rfl, .tail _ (.head _), kst_ltOf (And.right (And.right (And.right (And.right (And.right (by assumption)))))), by rw [e5]; exact .cons _ _ (.cons _ _ (.cons _ _ (.cons _ _ (.cons _ _ .nil))))⟩
  | (n + 6), hv => cases hv
end
section
variable {w : World} {mean : ExcName → Option Value} {mg mb : Str → Option Value} {news : List (Addr × Obj)}
set_option maxRecDepth 100000 in
set_option maxHeartbeats 8000000 in
theorem spelled_spec (l : List Nat) (t : Tok) (hl : l.length ≤ 1000) (news : List (Addr × Obj)) :
    Spec w mean mg mb 150 [.str (S l) t] 5 40 news (fun v nw => ∃ (D : Nat) (vs : List Value) (nn : Nat), v = .ref D ∧ (∀ q ∈ news, q.1 < D) ∧ nw = (D, W.listOf vs.toArray nn) :: news ∧ StrsAre vs ((spell l).map S)) := by
  refine Spec.of ?_
  intro dp un gd cn cs a ccd cl outer A₀ base h₀ L m s Q E B F X N T hk hd hu hret
  k_with_none
  k_with "tb" => (first | assumption | (apply le3; assumption; exact rfl) | lia | (simp only [List.length_append, List.length_cons, List.length_nil, List.length_take, List.length_drop, List.length_dropLast, crs_len, partOf_len] at *; lia) | ((with_reducible refine Nat.le_trans (crlf_len _) ?_); tb_start) | ((with_reducible refine Nat.le_trans (split_len _) ?_); tb_start) | ((with_reducible refine Nat.le_trans (norm_len _) ?_); tb_start))
  k_with "call builtin:str.count" => (refine count4 (by decide +kernel) (by first | assumption | lia) ?_)
  k_with "call builtin:str.rfind" => (refine rfind4 (by decide +kernel) (by first | assumption | lia) ?_)
  k_with "call builtin:str.replace" => ((try dsimp only at *); k_dflt (refine repl_crlf_S (by decide +kernel) (by decide +kernel) (by k_ne) (by k_ne) (by k_ne) (by tb_start) ?_); intro _ _ _)
  k_with "call builtin:str.replace" => ((try dsimp only at *); k_dflt (refine repl_cr_S (by decide +kernel) (by decide +kernel) (by k_ne) (by k_ne) (by k_ne) (by tb_start) ?_); intro _ _ _)
  k_with "call builtin:len" => ((with_reducible show wpAny _ _ (call (Value.builtin "len") [Value.str (S _) _]) _ _ _); refine len_S (by tb_start) ?_)
  k_with "call builtin:ord" => ((with_reducible show wpAny _ _ (call (Value.builtin "ord") [Value.str (S _) _]) _ _ _); refine ord_S ?_)
  k_with "binaryOp Add str str" => ((with_reducible show wpAny _ _ (binaryOp Operator.Add (Value.str (S _) _) (Value.str (S _) _)) _ _ _); refine add_S (by tb_start) ?_; intro _ _)
  k_with "inplaceOp Add str str" => ((with_reducible show wpAny _ _ (inplaceOp Operator.Add (Value.str (S _) _) (Value.str (S _) _)) _ _ _); refine iadd_S (by tb_start) ?_; intro _ _)
  k_with "truthy str" => ((with_reducible show wpAny _ _ (truthy (Value.str (S _) _)) _ _ _); refine truthy_S (by tb_start) ?_)
  k_with "compareOp Eq str str" => ((with_reducible show wpAny _ _ (compareOp CmpOp.Eq (Value.str (S _) _) (Value.str (S _) _)) _ _ _); refine eq_S ?_)
  k_with "compareOp NotEq str str" => ((with_reducible show wpAny _ _ (compareOp CmpOp.NotEq (Value.str (S _) _) (Value.str (S _) _)) _ _ _); refine ne_S ?_)
  k_with "subscriptTail Name Slice str ref" => (k_here; (with_reducible rename Fr _ _ _ _ => F'); (with_reducible rename News _ _ _ _ => N'); k_dflt (refine drop_S (s := ⟨_, _, _, _, _⟩) F' N' (by tb_start) ?_); intro _ _ _ _ _; (try k_sweep))
  k_with "subscriptTail Name Slice str ref" => (k_here; (with_reducible rename Fr _ _ _ _ => F'); (with_reducible rename News _ _ _ _ => N'); k_dflt (refine take_S (s := ⟨_, _, _, _, _⟩) F' N' (by tb_start) ?_); intro _ _ _ _ _; (try k_sweep))
  k_with "subscriptTail Name Slice str ref" => (k_here; (with_reducible rename Fr _ _ _ _ => F'); (with_reducible rename News _ _ _ _ => N'); k_dflt (refine mid_S (s := ⟨_, _, _, _, _⟩) F' N' (by tb_start) ?_); intro _ _ _ _ _; (try k_sweep))
  k_with "subscriptTail Name Slice str ref" => (k_here; (with_reducible rename Fr _ _ _ _ => F'); (with_reducible rename News _ _ _ _ => N'); k_dflt (refine part_S (s := ⟨_, _, _, _, _⟩) F' N' (by tb_start) ?_); intro _ _ _ _ _; (try k_sweep))
  k_with "subscriptTail Name Slice str ref" => (k_here; (with_reducible rename Fr _ _ _ _ => F'); (with_reducible rename News _ _ _ _ => N'); k_dflt (refine init_S (s := ⟨_, _, _, _, _⟩) F' N' (by tb_start) ?_); intro _ _ _ _ _; (try k_sweep))
  k_with "subscriptTail Name UnaryOp str int" => (k_here; (with_reducible show wpAny _ _ (subscriptTail _ _ (Value.str (S _) _) (Value.int _ _)) _ _ _); k_dflt (first | (refine last_S (by first | assumption | (intro hz; simp only [hz, List.length_nil] at *; lia)) (by tb_start) ?_) | (refine item_S (by first | assumption | lia | k_extra "my item") (by tb_start) ?_)))
  k_with "subscriptTail Name Name str int" => (k_here; (with_reducible show wpAny _ _ (subscriptTail _ _ (Value.str (S _) _) (Value.int _ _)) _ _ _); first | (with_reducible refine item_S (by k_dflt (first | assumption | lia | k_extra "my item")) (by k_dflt tb_start) ?_) | k_dflt (refine item_Si (by lia) (by first | lia | k_extra "my item") (by tb_start) ?_))
  k_with "subscriptTail Name Constant str int" => (k_here; (with_reducible show wpAny _ _ (subscriptTail _ _ (Value.str (S _) _) (Value.int _ _)) _ _ _); first | (with_reducible refine item_S (by k_dflt (first | assumption | lia | k_extra "my item")) (by k_dflt tb_start) ?_) | k_dflt (refine item_Si (by lia) (by first | lia | k_extra "my item") (by tb_start) ?_))
  k_with "subscriptTail Name BinOp str int" => (k_here; (with_reducible show wpAny _ _ (subscriptTail _ _ (Value.str (S _) _) (Value.int _ _)) _ _ _); first | (with_reducible refine item_S (by k_dflt (first | assumption | lia | k_extra "my item")) (by k_dflt tb_start) ?_) | k_dflt (refine item_Si (by lia) (by first | lia | k_extra "my item") (by tb_start) ?_))
  k_with "subscriptTail Attribute Name str int" => (k_here; (with_reducible show wpAny _ _ (subscriptTail _ _ (Value.str (S _) _) (Value.int _ _)) _ _ _); first | (with_reducible refine item_S (by k_dflt (first | assumption | lia | k_extra "my item")) (by k_dflt tb_start) ?_) | k_dflt (refine item_Si (by lia) (by first | lia | k_extra "my item") (by tb_start) ?_))
  k_with "subscriptTail Attribute Constant str int" => (k_here; (with_reducible show wpAny _ _ (subscriptTail _ _ (Value.str (S _) _) (Value.int _ _)) _ _ _); first | (with_reducible refine item_S (by k_dflt (first | assumption | lia | k_extra "my item")) (by k_dflt tb_start) ?_) | k_dflt (refine item_Si (by lia) (by first | lia | k_extra "my item") (by tb_start) ?_))
  k_with "subscriptTail Attribute Attribute str int" => (k_here; (with_reducible show wpAny _ _ (subscriptTail _ _ (Value.str (S _) _) (Value.int _ _)) _ _ _); first | (with_reducible refine item_S (by k_dflt (first | assumption | lia | k_extra "my item")) (by k_dflt tb_start) ?_) | k_dflt (refine item_Si (by lia) (by first | lia | k_extra "my item") (by tb_start) ?_))
  k_with "truthy ref" => (k_here; k_dflt (refine' truthy_meth ?N ?q ?_; (case N => k_asm); (case q => k_mem); k_whole))
  k_with "exec For Name Name cons nil" => (k_here; (with_reducible rename Fr _ _ _ _ => lF'); k_dflt (refine' For_invVF lF' ?k1 ?k2 ?_; (case k1 => exact rfl); (case k2 => exact rfl); k_whole))
  k_with "exec For Name Subscript cons nil" => (k_here; (with_reducible rename Fr _ _ _ _ => lF'); k_dflt (refine' For_invVF lF' ?k1 ?k2 ?_; (case k1 => exact rfl); (case k2 => exact rfl); k_whole))
  k_with "all" => (refine List.forall_mem_append.mpr ⟨?a, ?b⟩; (case a => k_all); (case b => k_all))
  k_with "rel" => (simp only [List.size_toArray]; rw [PySem.sizeLine_eq]; lia)
  k_with "call builtin:list.append" => (k_here; (with_reducible show wpAny _ _ (call (Value.builtin _) [Value.ref _, _]) _ _ _); k_dflt (refine' append_K ?k1 ?k2 ?k3 ?_ ?z; (case k1 => k_asm); (case k2 => k_asm); (case k3 => k_upd); (case z => tb_rel); k_whole); intro h' F' N'; (try simp only [List.push_toArray] at N'); (try k_sweep))
  k_with "enter" => (refine' code_def ?k1 ?k2 ?k3 ?k4 ?k5 ?kA ?kF ?kK ?k6 ?k7 ?k8 ?k9 ?kB ?_ ?c2 ?c3 ?c4 ?c5; (case kA => exact rfl); (case kF => exact rfl); (case kK => assumption); (case k1 => k_asm); (case k2 => k_asm); (case k3 => k_asm); (case k4 => k_asm); (case k5 => k_asm); (case k6 => k_is); (case k7 => k_is); (case k8 => ktr_room); (case k9 => first | exact BindsTo.of_eq rfl | exact binds_K (by k_in) rfl (by k_is) rfl rfl rfl); (case c5 => decide); (case kB => exact locs rfl); (case c2 => exact rfl); (case c3 => exact rfl); (case c4 => exact rfl); k_whole; intro g' L' h' FG' F' N' B' X' T'; (try dsimp only); (try k_lift B'); (try k_fold))
  k_with "JoinP" => (dsimp only [JoinP])
  k_with "subscriptTail" => (k_here; (with_reducible show wpAny _ _ (subscriptTail _ _ (Value.str (S _) _) (Value.int _ _)) _ _ _); first | (with_reducible refine item_S (by k_dflt (first | assumption | lia | k_extra "my item")) (by k_dflt tb_start) ?_) | k_dflt (refine item_Si (by lia) (by first | lia | k_extra "my item") (by tb_start) ?_))
  k_with "compareOp Eq str str" => ((with_reducible show wpAny _ _ (compareOp CmpOp.Eq (Value.str (S _) _) (Value.str (Str.ofString _) _)) _ _ _); k_dflt (first | refine eq_lit [13] (by decide +kernel) ?_ | refine eq_lit [10] (by decide +kernel) ?_))
  k_with "compareOp NotEq str str" => ((with_reducible show wpAny _ _ (compareOp CmpOp.NotEq (Value.str (S _) _) (Value.str (Str.ofString _) _)) _ _ _); k_dflt (first | refine ne_lit [13] (by decide +kernel) ?_ | refine ne_lit [10] (by decide +kernel) ?_))
  k_with "inplaceOp Add str str" => ((with_reducible show wpAny _ _ (inplaceOp Operator.Add (Value.str (S _) _) (Value.str (Str.ofString _) _)) _ _ _); k_dflt (refine iadd_lit [10] (by decide +kernel) (by tb_start) ?_); intro _ _)
  k_with "room" => (k_dflt ((first | apply room4 | apply room3 | apply room2 | apply room1 | apply room0 | apply roomz); assumption; exact rfl))
  k_dflt (k_extra "enter")
  (rename Fr _ _ _ _ => F1)
  (with_unfolding_all change Fr _ _ _ (fun y => List.lookup y [(Str.ofString "text", Value.str (S l) t)]) at F1)
  k_steps
  (rename Fr _ _ _ _ => lF')
  (rename News _ _ _ _ => lN')
  (obtain ⟨D9, hD9, N9⟩ := name_new lN'); subst hD9
  (rename ∀ (p : Addr × Obj), p ∈ news → p.1 < _ => hlt)
  clear lN'
  k_dflt (refine loop_Sm (fun m₀ i m' nx => ∃ (vs : List Value) (nn : Nat), nx = (D9, W.listOf vs.toArray nn) :: news ∧ StrsAre vs ((spell (l.take i)).map S) ∧ ∃ u : Option Value, m' = fun z => if z = Str.ofString "sign" then u else m₀ z) (by rfl) lF' N9 ⟨[], 0, rfl, .nil, mix1 _ _⟩ ?_ ?_)
  · clear lF' N9
    intro i c t' m₁ n₁ h tk own hi hadr hoff hJ F' N'
    obtain ⟨vs, nn, rfl, hS, u, rfl⟩ := hJ
    have hlen : (spell (l.take i)).length ≤ 1000 := by
      have h1 := (spell_ok l i (Nat.le_of_lt (List.getElem?_eq_some_iff.mp hi).1)).2
      rw [spell_len]
      exact Nat.le_trans (norm_len _) (Nat.le_trans (List.length_take_le' _ _) hl)
    have hne9 : ∀ p ∈ news ++ own, p.1 ≠ D9 := fun p hp => by
      rcases List.mem_append.mp hp with hp | hp
      · exact Nat.ne_of_lt (hlt p hp)
      · exact hoff p hp _ (.head _)
    have hst := spell_take hi
    generalize spell (l.take i) = L9 at *
    rcases list_last L9 with rfl | ⟨L8, s8, rfl⟩
    · obtain rfl : vs = [] := by cases hS; rfl
      k_with "truthy ref" => ((with_reducible show wpAny _ _ (truthy (Value.ref _)) _ _ _); k_dflt (refine truthy_nilL (News.isList (by k_asm) (.head _)) ?_); intro k9)
      k_with "call builtin:list.append" => (k_dflt (refine append_K (by k_asm) (by k_asm) (.head hne9) ?_ (by decide)); intro h9 F9 N9; (simp only [List.push_toArray] at N9))
      (try k_fold)
      k_steps
      all_goals (
        rename News _ _ _ _ => N8
        refine led0_endA (news := (D9, _) :: news) (by assumption) N8 rfl ⟨_, _, rfl, ?_, mixL (fun z hz => (by repeat (first | with_reducible rfl | refine (if_neg (by assumption)).trans ?_ | rfl)))⟩
        rw [hst, sp_nil]
        exact .cons _ _ .nil)
    · rw [List.map_append] at hS
      obtain ⟨ws, t8, rfl, hW⟩ := strs_last hS
      have hwl := StrsAre.length hW
      rw [List.length_map] at hwl
      rw [List.length_append] at hlen
      have hwl2 : ws.length ≤ 1000 := by rw [hwl]; exact Nat.le_trans (Nat.le_add_right _ _) hlen
      k_with "truthy ref" => ((with_reducible show wpAny _ _ (truthy (Value.ref _)) _ _ _); k_dflt (refine truthy_snoc (News.isList (by k_asm) (.head _)) (Nat.le_trans hwl2 (by decide)) ?_); intro k9)
      k_with "subscriptTail" => ((with_reducible show wpAny _ _ (subscriptTail _ _ (Value.ref _) (Value.int (-1) _)) _ _ _); k_dflt (refine item_last (News.isList (by k_asm) (.head _)) ?_))
      k_with "setItem ref int" => (k_dflt (refine set_last (by k_asm) (by k_asm) hne9 ?_); intro h9 F9 N9)
      k_with "call builtin:list.append" => (k_dflt (refine append_K (by k_asm) (by k_asm) (.head hne9) ?_ (by rw [List.size_toArray, List.length_append, List.length_singleton, PySem.sizeLine_eq]; lia)); intro h9 F9 N9; (simp only [List.push_toArray] at N9))
      (try k_fold)
      k_steps
      all_goals (
        rename News _ _ _ _ => N8
        refine led0_endA (news := (D9, _) :: news) (by assumption) N8 rfl ⟨_, _, rfl, ?_, mixL (fun z hz => (by repeat (first | with_reducible rfl | refine (if_neg (by assumption)).trans ?_ | rfl)))⟩
        rw [hst]
        first
        | (rw [sp_yes (by assumption) (by assumption), List.map_append]; exact kct_snoc hW)
        | (rw [sp_no (fun h => (by assumption : ¬ _) h.1), List.map_append, List.map_append]; exact kct_snoc hS)
        | (rw [sp_no (fun h => (by assumption : ¬ _) h.2), List.map_append, List.map_append]; exact kct_snoc hS))
  · clear lF' N9
    intro m₁ n₁ h tk hJ F' N'
    obtain ⟨vs, nn, rfl, hS, u, rfl⟩ := hJ
    rw [List.take_length] at hS
    (try dsimp only)
    (try k_fold)
    k_steps
    all_goals exact hret _ _ _ _ ⟨_, _, _, rfl, hlt, rfl, hS⟩ (by assumption) (by assumption)
end
section
variable {w : World} {mean : ExcName → Option Value} {mg mb : Str → Option Value} {news : List (Addr × Obj)}
set_option maxRecDepth 100000 in
set_option maxHeartbeats 8000000 in
theorem counted_spec (T : List Nat) (hT : T.length ≤ 1000) {Dg nn : Nat} {vs : List Value} (hg : (Dg, W.listOf vs.toArray nn) ∈ news) (hS : StrsAre vs (sg T)) :
    Spec w mean mg mb 157 [.ref Dg] 5 90 news (fun v n => PosIs v n news (T.foldl adv (1, 0))) := by
  refine Spec.of ?_
  intro dp un gd cn cs a ccd cl outer A₀ base h₀ L m s Q E B F X N Tt hk hd hu hret
  k_with_none
  k_with "tb" => (first | assumption | (apply le3; assumption; exact rfl) | lia | (simp only [List.length_append, List.length_cons, List.length_nil, List.length_take, List.length_drop, List.length_dropLast, crs_len, partOf_len] at *; lia) | ((with_reducible refine Nat.le_trans (crlf_len _) ?_); tb_start) | ((with_reducible refine Nat.le_trans (split_len _) ?_); tb_start) | ((with_reducible refine Nat.le_trans (norm_len _) ?_); tb_start))
  k_with "call builtin:str.count" => (refine count4 (by decide +kernel) (by first | assumption | lia) ?_)
  k_with "call builtin:str.rfind" => (refine rfind4 (by decide +kernel) (by first | assumption | lia) ?_)
  k_with "call builtin:str.replace" => ((try dsimp only at *); k_dflt (refine repl_crlf_S (by decide +kernel) (by decide +kernel) (by k_ne) (by k_ne) (by k_ne) (by tb_start) ?_); intro _ _ _)
  k_with "call builtin:str.replace" => ((try dsimp only at *); k_dflt (refine repl_cr_S (by decide +kernel) (by decide +kernel) (by k_ne) (by k_ne) (by k_ne) (by tb_start) ?_); intro _ _ _)
  k_with "call builtin:len" => ((with_reducible show wpAny _ _ (call (Value.builtin "len") [Value.str (S _) _]) _ _ _); refine len_S (by tb_start) ?_)
  k_with "call builtin:ord" => ((with_reducible show wpAny _ _ (call (Value.builtin "ord") [Value.str (S _) _]) _ _ _); refine ord_S ?_)
  k_with "binaryOp Add str str" => ((with_reducible show wpAny _ _ (binaryOp Operator.Add (Value.str (S _) _) (Value.str (S _) _)) _ _ _); refine add_S (by tb_start) ?_; intro _ _)
  k_with "inplaceOp Add str str" => ((with_reducible show wpAny _ _ (inplaceOp Operator.Add (Value.str (S _) _) (Value.str (S _) _)) _ _ _); refine iadd_S (by tb_start) ?_; intro _ _)
  k_with "truthy str" => ((with_reducible show wpAny _ _ (truthy (Value.str (S _) _)) _ _ _); refine truthy_S (by tb_start) ?_)
  k_with "compareOp Eq str str" => ((with_reducible show wpAny _ _ (compareOp CmpOp.Eq (Value.str (S _) _) (Value.str (S _) _)) _ _ _); refine eq_S ?_)
  k_with "compareOp NotEq str str" => ((with_reducible show wpAny _ _ (compareOp CmpOp.NotEq (Value.str (S _) _) (Value.str (S _) _)) _ _ _); refine ne_S ?_)
  k_with "subscriptTail Name Slice str ref" => (k_here; (with_reducible rename Fr _ _ _ _ => F'); (with_reducible rename News _ _ _ _ => N'); k_dflt (refine drop_S (s := ⟨_, _, _, _, _⟩) F' N' (by tb_start) ?_); intro _ _ _ _ _; (try k_sweep))
  k_with "subscriptTail Name Slice str ref" => (k_here; (with_reducible rename Fr _ _ _ _ => F'); (with_reducible rename News _ _ _ _ => N'); k_dflt (refine take_S (s := ⟨_, _, _, _, _⟩) F' N' (by tb_start) ?_); intro _ _ _ _ _; (try k_sweep))
  k_with "subscriptTail Name Slice str ref" => (k_here; (with_reducible rename Fr _ _ _ _ => F'); (with_reducible rename News _ _ _ _ => N'); k_dflt (refine mid_S (s := ⟨_, _, _, _, _⟩) F' N' (by tb_start) ?_); intro _ _ _ _ _; (try k_sweep))
  k_with "subscriptTail Name Slice str ref" => (k_here; (with_reducible rename Fr _ _ _ _ => F'); (with_reducible rename News _ _ _ _ => N'); k_dflt (refine part_S (s := ⟨_, _, _, _, _⟩) F' N' (by tb_start) ?_); intro _ _ _ _ _; (try k_sweep))
  k_with "subscriptTail Name Slice str ref" => (k_here; (with_reducible rename Fr _ _ _ _ => F'); (with_reducible rename News _ _ _ _ => N'); k_dflt (refine init_S (s := ⟨_, _, _, _, _⟩) F' N' (by tb_start) ?_); intro _ _ _ _ _; (try k_sweep))
  k_with "subscriptTail Name UnaryOp str int" => (k_here; (with_reducible show wpAny _ _ (subscriptTail _ _ (Value.str (S _) _) (Value.int _ _)) _ _ _); k_dflt (first | (refine last_S (by first | assumption | (intro hz; simp only [hz, List.length_nil] at *; lia)) (by tb_start) ?_) | (refine item_S (by first | assumption | lia | k_extra "my item") (by tb_start) ?_)))
  k_with "subscriptTail Name Name str int" => (k_here; (with_reducible show wpAny _ _ (subscriptTail _ _ (Value.str (S _) _) (Value.int _ _)) _ _ _); first | (with_reducible refine item_S (by k_dflt (first | assumption | lia | k_extra "my item")) (by k_dflt tb_start) ?_) | k_dflt (refine item_Si (by lia) (by first | lia | k_extra "my item") (by tb_start) ?_))
  k_with "subscriptTail Name Constant str int" => (k_here; (with_reducible show wpAny _ _ (subscriptTail _ _ (Value.str (S _) _) (Value.int _ _)) _ _ _); first | (with_reducible refine item_S (by k_dflt (first | assumption | lia | k_extra "my item")) (by k_dflt tb_start) ?_) | k_dflt (refine item_Si (by lia) (by first | lia | k_extra "my item") (by tb_start) ?_))
  k_with "subscriptTail Name BinOp str int" => (k_here; (with_reducible show wpAny _ _ (subscriptTail _ _ (Value.str (S _) _) (Value.int _ _)) _ _ _); first | (with_reducible refine item_S (by k_dflt (first | assumption | lia | k_extra "my item")) (by k_dflt tb_start) ?_) | k_dflt (refine item_Si (by lia) (by first | lia | k_extra "my item") (by tb_start) ?_))
  k_with "subscriptTail Attribute Name str int" => (k_here; (with_reducible show wpAny _ _ (subscriptTail _ _ (Value.str (S _) _) (Value.int _ _)) _ _ _); first | (with_reducible refine item_S (by k_dflt (first | assumption | lia | k_extra "my item")) (by k_dflt tb_start) ?_) | k_dflt (refine item_Si (by lia) (by first | lia | k_extra "my item") (by tb_start) ?_))
  k_with "subscriptTail Attribute Constant str int" => (k_here; (with_reducible show wpAny _ _ (subscriptTail _ _ (Value.str (S _) _) (Value.int _ _)) _ _ _); first | (with_reducible refine item_S (by k_dflt (first | assumption | lia | k_extra "my item")) (by k_dflt tb_start) ?_) | k_dflt (refine item_Si (by lia) (by first | lia | k_extra "my item") (by tb_start) ?_))
  k_with "subscriptTail Attribute Attribute str int" => (k_here; (with_reducible show wpAny _ _ (subscriptTail _ _ (Value.str (S _) _) (Value.int _ _)) _ _ _); first | (with_reducible refine item_S (by k_dflt (first | assumption | lia | k_extra "my item")) (by k_dflt tb_start) ?_) | k_dflt (refine item_Si (by lia) (by first | lia | k_extra "my item") (by tb_start) ?_))
  k_with "truthy ref" => (k_here; k_dflt (refine' truthy_meth ?N ?q ?_; (case N => k_asm); (case q => k_mem); k_whole))
  k_with "exec For Name Name cons nil" => (k_here; (with_reducible rename Fr _ _ _ _ => lF'); k_dflt (refine' For_invVF lF' ?k1 ?k2 ?_; (case k1 => exact rfl); (case k2 => exact rfl); k_whole))
  k_with "exec For Name Subscript cons nil" => (k_here; (with_reducible rename Fr _ _ _ _ => lF'); k_dflt (refine' For_invVF lF' ?k1 ?k2 ?_; (case k1 => exact rfl); (case k2 => exact rfl); k_whole))
  k_with "all" => (refine List.forall_mem_append.mpr ⟨?a, ?b⟩; (case a => k_all); (case b => k_all))
  k_with "rel" => (simp only [List.size_toArray]; rw [PySem.sizeLine_eq]; lia)
  k_with "call builtin:list.append" => (k_here; (with_reducible show wpAny _ _ (call (Value.builtin _) [Value.ref _, _]) _ _ _); k_dflt (refine' append_K ?k1 ?k2 ?k3 ?_ ?z; (case k1 => k_asm); (case k2 => k_asm); (case k3 => k_upd); (case z => tb_rel); k_whole); intro h' F' N'; (try simp only [List.push_toArray] at N'); (try k_sweep))
  k_with "enter" => (refine' code_def ?k1 ?k2 ?k3 ?k4 ?k5 ?kA ?kF ?kK ?k6 ?k7 ?k8 ?k9 ?kB ?_ ?c2 ?c3 ?c4 ?c5; (case kA => exact rfl); (case kF => exact rfl); (case kK => assumption); (case k1 => k_asm); (case k2 => k_asm); (case k3 => k_asm); (case k4 => k_asm); (case k5 => k_asm); (case k6 => k_is); (case k7 => k_is); (case k8 => ktr_room); (case k9 => first | exact BindsTo.of_eq rfl | exact binds_K (by k_in) rfl (by k_is) rfl rfl rfl); (case c5 => decide); (case kB => exact locs rfl); (case c2 => exact rfl); (case c3 => exact rfl); (case c4 => exact rfl); k_whole; intro g' L' h' FG' F' N' B' X' T'; (try dsimp only); (try k_lift B'); (try k_fold))
  k_with "JoinP" => (dsimp only [JoinP])
  k_with "subscriptTail" => (k_here; (with_reducible show wpAny _ _ (subscriptTail _ _ (Value.str (S _) _) (Value.int _ _)) _ _ _); first | (with_reducible refine item_S (by k_dflt (first | assumption | lia | k_extra "my item")) (by k_dflt tb_start) ?_) | k_dflt (refine item_Si (by lia) (by first | lia | k_extra "my item") (by tb_start) ?_))
  k_with "compareOp Eq str str" => ((with_reducible show wpAny _ _ (compareOp CmpOp.Eq (Value.str (S _) _) (Value.str (Str.ofString _) _)) _ _ _); k_dflt (first | refine eq_lit [13] (by decide +kernel) ?_ | refine eq_lit [10] (by decide +kernel) ?_))
  k_with "compareOp NotEq str str" => ((with_reducible show wpAny _ _ (compareOp CmpOp.NotEq (Value.str (S _) _) (Value.str (Str.ofString _) _)) _ _ _); k_dflt (first | refine ne_lit [13] (by decide +kernel) ?_ | refine ne_lit [10] (by decide +kernel) ?_))
  k_with "inplaceOp Add str str" => ((with_reducible show wpAny _ _ (inplaceOp Operator.Add (Value.str (S _) _) (Value.str (Str.ofString _) _)) _ _ _); k_dflt (refine iadd_lit [10] (by decide +kernel) (by tb_start) ?_); intro _ _)
  k_with "room" => (k_dflt ((first | apply room4 | apply room3 | apply room2 | apply room1 | apply room0 | apply roomz); assumption; exact rfl))
  k_dflt (k_extra "enter")
  (rename Fr _ _ _ _ => F1)
  (with_unfolding_all change Fr _ _ _ (fun y => List.lookup y [(Str.ofString "signs", Value.ref Dg)]) at F1)
  k_steps
  (rename Fr _ _ _ _ => lF')
  (rename News _ _ _ _ => lN')
  k_dflt (refine loop_Lg (fun m₀ i m' nx => nx = news ∧ ∃ (ta tb : Tok) (u : Option Value), m' = fun z => if z = Str.ofString "sign" then u else if z = Str.ofString "line" then some (.int ((T.take i).foldl adv (1, 0)).1 ta) else if z = Str.ofString "column" then some (.int ((T.take i).foldl adv (1, 0)).2 tb) else m₀ z) (by rfl) hg lF' lN' ⟨rfl, mix_cnt _ _ _ ⟨_, rfl⟩ ⟨_, rfl⟩ (fun z h1 h2 h3 => rfl)⟩ ?_ ?_)
  · clear lF' lN'
    intro I i v m₁ nx h tk own hv hI hown hoff hlm hJ F' N'
    obtain ⟨rfl, ta, tb, u, rfl⟩ := hJ
    have hi : i < T.length := by
      have := (List.getElem?_eq_some_iff.mp hv).1
      rw [sg_len hS] at this
      exact this
    obtain ⟨c, hc⟩ : ∃ c, T[i]? = some c := ⟨_, List.getElem?_eq_getElem hi⟩
    obtain ⟨t9, ht9⟩ := StrsAre.at hS (show (sg T)[i]? = some (S [c]) by rw [List.getElem?_map, hc]; rfl)
    rw [hv] at ht9
    obtain rfl := Option.some.inj ht9
    have hft := fold_take (1, 0) hc
    generalize (T.take i).foldl adv (1, 0) = P at *
    (try k_fold)
    k_steps
    all_goals first
      | exact absurd (by assumption : [c] = [10]) (by assumption)
      | (refine grow_end _ (by assumption) (by assumption) (fun p hp => hp) (fun p hp => hoff p hp) ⟨hg, rfl, mix_cnt _ _ _ ⟨_, int_eq ?_⟩ ⟨_, int_eq ?_⟩ (fun z h1 h2 h3 => (by repeat (first | with_reducible rfl | refine (if_neg (by assumption)).trans ?_ | rfl)))⟩
         · rw [hft]
           first
           | exact plv_a rfl (by assumption)
           | exact (Int.add_zero _).trans (plv_b rfl (by assumption))
         · rw [hft]
           first
           | exact plv_c (by assumption)
           | exact plv_d rfl (by assumption))
  · clear lF' lN'
    intro m₁ n₁ h tk hlm hJ F' N'
    obtain ⟨rfl, ta, tb, u, rfl⟩ := hJ
    have hTl : T.take vs.length = T := by rw [sg_len hS, List.take_length]
    rw [hTl] at F'
    (try dsimp only)
    (try k_fold)
    k_steps
    all_goals (
      refine hret _ _ _ _ ⟨_, _, _, _, _, rfl, ?_, rfl, rfl, rfl⟩ (by assumption) (by assumption)
      first | exact kst_ltOf (by assumption) | assumption)
end
section
variable {w : World} {mean : ExcName → Option Value} {mg mb : Str → Option Value} {R : List Nat} {rest : List (Addr × Obj)} {ad : List Nat} {x : Nat} {st st' : St} {news : List (Addr × Obj)}
/-- with an object made for it -/
theorem until_new (hL : LedIs w R rest ad x st news) {D : Nat} {o : Obj} (hlt : ∀ p ∈ news, p.1 < D) {P : Nat → Bool} (hIn : InIs w (.ref D) P ((D, o) :: rest)) {b : Bool} (vs : List Value) (hv : vs = [.ref x, .ref D, .bool b] ∨ (vs = [.ref x, .ref D] ∧ b = false)) {n : Nat} {l : List Nat} (hU : Until R P b n st l st') (hn : n ≤ 50) :
    Spec w mean mg mb 121 vs 60 500 ((D, o) :: news) (fun v nw => (∃ t, v = .str (S l) t) ∧ LedIs w R rest ad x st' nw) := by
  intro dp un gd cn cs a ccd cl outer A₀ base h₀ L m s Q E B F X N T hk hd hu hret
  obtain ⟨D', rfl, n2, hL2, N2, _⟩ := LedR.push3 (o := o) hL hlt N
  refine until_gen hL2 hIn vs hv hU hn dp un gd cn cs a ccd cl outer A₀ base h₀ L m s Q E B F X N2 T hk hd hu ?_
  intro r nw h' tk' hR ht F' N'
  obtain ⟨hr, hL3⟩ := hR
  obtain ⟨n3, hL4, hsub⟩ := LedR.pop hL3
  exact hret r n3 h' tk' ⟨hr, hL4⟩ ht F' (News.sub N' hsub)
end
theorem ne_allLt {d : Addr} {l : List (Addr × Obj)} (h : AllLt d l) : ∀ p ∈ l, p.1 ≠ d := fun p hp => Nat.ne_of_lt (kst_ltOf h p hp)
theorem off_lt {d x q nl dT xT e : Nat} {rest : List (Addr × Obj)} (hA : d < x ∧ x < q ∧ q < nl ∧ nl < dT ∧ dT < xT ∧ xT < e) (h : ∀ p ∈ rest, p.1 < d) : OwnOff rest [e, xT, dT, nl, q, x, d] := fun p hp b hb => by
  have h1 : p.1 < d := h p hp
  have h2 : d ≤ b := by
    obtain ⟨h2, h3, h4, h5, h6, h7⟩ := hA
    have h3 := Nat.lt_trans h2 h3
    have h4 := Nat.lt_trans h3 h4
    have h5 := Nat.lt_trans h4 h5
    have h6 := Nat.lt_trans h5 h6
    have h7 := Nat.lt_trans h6 h7
    simp only [List.mem_cons, List.not_mem_nil, or_false] at hb
    rcases hb with h | h | h | h | h | h | h <;> subst h <;> first | exact Nat.le_refl _ | exact Nat.le_of_lt (by assumption)
  exact Nat.ne_of_lt (Nat.lt_of_lt_of_le h1 h2)
section
variable {w : World} {mean : ExcName → Option Value} {mg mb : Str → Option Value} {news : List (Addr × Obj)}
set_option maxRecDepth 100000 in
set_option maxHeartbeats 8000000 in
/-- the stream is made -/
theorem new_spec (R : List Nat) (t : Tok) (hR : R.length ≤ 1000)
    {dp un : Nat} {gd : Option (List Code)} {cn : Str} {cs : Scope} {a : Addr} {ccd : Value} {cl : List (Str × Addr)} {outer : List Env} {A₀ : Around} {base h₀ : Heap} {L : Addr} {m : Str → Option Value} {s : Shared} {Q E : Value → Shared → Prop}
    (B : Below A₀ base outer h₀) (F : Fr h₀ L s.heap m) (X : (hd05.heap_39 w.params).In h₀) (N : News h₀ L s.heap news) (T : Top hd05.view_39 loose mean mg mb h₀) (hk : cs.kind = .function)
    (hd : dp + 30 < recursionLimit) (hu : un + 200 < cLine)
    (hret : ∀ ad x n' h' tk', LedIs w R news ad x ⟨[], 0, 0, 0, 0, none, 0⟩ n' → Fr h₀ L h' m → News h₀ L h' n' → Q (.ref x) { s with heap := h', toks := tk' }) :
    wpAny (model PySem.Challenge.pw_te0074_05 w) (ktrTop dp un gd cn cs L a ccd cl outer) (call (.ref 131) [.str (S R) t]) Q E s := by
  k_with_none
  k_with "tb" => (first | assumption | (apply le3; assumption; exact rfl) | lia | (simp only [List.length_append, List.length_cons, List.length_nil, List.length_take, List.length_drop, List.length_dropLast, crs_len, partOf_len] at *; lia) | ((with_reducible refine Nat.le_trans (crlf_len _) ?_); tb_start) | ((with_reducible refine Nat.le_trans (split_len _) ?_); tb_start) | ((with_reducible refine Nat.le_trans (norm_len _) ?_); tb_start))
  k_with "call builtin:str.count" => (refine count4 (by decide +kernel) (by first | assumption | lia) ?_)
  k_with "call builtin:str.rfind" => (refine rfind4 (by decide +kernel) (by first | assumption | lia) ?_)
  k_with "call builtin:str.replace" => ((try dsimp only at *); k_dflt (refine repl_crlf_S (by decide +kernel) (by decide +kernel) (by k_ne) (by k_ne) (by k_ne) (by tb_start) ?_); intro _ _ _)
  k_with "call builtin:str.replace" => ((try dsimp only at *); k_dflt (refine repl_cr_S (by decide +kernel) (by decide +kernel) (by k_ne) (by k_ne) (by k_ne) (by tb_start) ?_); intro _ _ _)
  k_with "call builtin:len" => ((with_reducible show wpAny _ _ (call (Value.builtin "len") [Value.str (S _) _]) _ _ _); refine len_S (by tb_start) ?_)
  k_with "call builtin:ord" => ((with_reducible show wpAny _ _ (call (Value.builtin "ord") [Value.str (S _) _]) _ _ _); refine ord_S ?_)
  k_with "binaryOp Add str str" => ((with_reducible show wpAny _ _ (binaryOp Operator.Add (Value.str (S _) _) (Value.str (S _) _)) _ _ _); refine add_S (by tb_start) ?_; intro _ _)
  k_with "inplaceOp Add str str" => ((with_reducible show wpAny _ _ (inplaceOp Operator.Add (Value.str (S _) _) (Value.str (S _) _)) _ _ _); refine iadd_S (by tb_start) ?_; intro _ _)
  k_with "truthy str" => ((with_reducible show wpAny _ _ (truthy (Value.str (S _) _)) _ _ _); refine truthy_S (by tb_start) ?_)
  k_with "compareOp Eq str str" => ((with_reducible show wpAny _ _ (compareOp CmpOp.Eq (Value.str (S _) _) (Value.str (S _) _)) _ _ _); refine eq_S ?_)
  k_with "compareOp NotEq str str" => ((with_reducible show wpAny _ _ (compareOp CmpOp.NotEq (Value.str (S _) _) (Value.str (S _) _)) _ _ _); refine ne_S ?_)
  k_with "subscriptTail Name Slice str ref" => (k_here; (with_reducible rename Fr _ _ _ _ => F'); (with_reducible rename News _ _ _ _ => N'); k_dflt (refine drop_S (s := ⟨_, _, _, _, _⟩) F' N' (by tb_start) ?_); intro _ _ _ _ _; (try k_sweep))
  k_with "subscriptTail Name Slice str ref" => (k_here; (with_reducible rename Fr _ _ _ _ => F'); (with_reducible rename News _ _ _ _ => N'); k_dflt (refine take_S (s := ⟨_, _, _, _, _⟩) F' N' (by tb_start) ?_); intro _ _ _ _ _; (try k_sweep))
  k_with "subscriptTail Name Slice str ref" => (k_here; (with_reducible rename Fr _ _ _ _ => F'); (with_reducible rename News _ _ _ _ => N'); k_dflt (refine mid_S (s := ⟨_, _, _, _, _⟩) F' N' (by tb_start) ?_); intro _ _ _ _ _; (try k_sweep))
  k_with "subscriptTail Name Slice str ref" => (k_here; (with_reducible rename Fr _ _ _ _ => F'); (with_reducible rename News _ _ _ _ => N'); k_dflt (refine part_S (s := ⟨_, _, _, _, _⟩) F' N' (by tb_start) ?_); intro _ _ _ _ _; (try k_sweep))
  k_with "subscriptTail Name Slice str ref" => (k_here; (with_reducible rename Fr _ _ _ _ => F'); (with_reducible rename News _ _ _ _ => N'); k_dflt (refine init_S (s := ⟨_, _, _, _, _⟩) F' N' (by tb_start) ?_); intro _ _ _ _ _; (try k_sweep))
  k_with "subscriptTail Name UnaryOp str int" => (k_here; (with_reducible show wpAny _ _ (subscriptTail _ _ (Value.str (S _) _) (Value.int _ _)) _ _ _); k_dflt (first | (refine last_S (by first | assumption | (intro hz; simp only [hz, List.length_nil] at *; lia)) (by tb_start) ?_) | (refine item_S (by first | assumption | lia | k_extra "my item") (by tb_start) ?_)))
  k_with "subscriptTail Name Name str int" => (k_here; (with_reducible show wpAny _ _ (subscriptTail _ _ (Value.str (S _) _) (Value.int _ _)) _ _ _); first | (with_reducible refine item_S (by k_dflt (first | assumption | lia | k_extra "my item")) (by k_dflt tb_start) ?_) | k_dflt (refine item_Si (by lia) (by first | lia | k_extra "my item") (by tb_start) ?_))
  k_with "subscriptTail Name Constant str int" => (k_here; (with_reducible show wpAny _ _ (subscriptTail _ _ (Value.str (S _) _) (Value.int _ _)) _ _ _); first | (with_reducible refine item_S (by k_dflt (first | assumption | lia | k_extra "my item")) (by k_dflt tb_start) ?_) | k_dflt (refine item_Si (by lia) (by first | lia | k_extra "my item") (by tb_start) ?_))
  k_with "subscriptTail Name BinOp str int" => (k_here; (with_reducible show wpAny _ _ (subscriptTail _ _ (Value.str (S _) _) (Value.int _ _)) _ _ _); first | (with_reducible refine item_S (by k_dflt (first | assumption | lia | k_extra "my item")) (by k_dflt tb_start) ?_) | k_dflt (refine item_Si (by lia) (by first | lia | k_extra "my item") (by tb_start) ?_))
  k_with "subscriptTail Attribute Name str int" => (k_here; (with_reducible show wpAny _ _ (subscriptTail _ _ (Value.str (S _) _) (Value.int _ _)) _ _ _); first | (with_reducible refine item_S (by k_dflt (first | assumption | lia | k_extra "my item")) (by k_dflt tb_start) ?_) | k_dflt (refine item_Si (by lia) (by first | lia | k_extra "my item") (by tb_start) ?_))
  k_with "subscriptTail Attribute Constant str int" => (k_here; (with_reducible show wpAny _ _ (subscriptTail _ _ (Value.str (S _) _) (Value.int _ _)) _ _ _); first | (with_reducible refine item_S (by k_dflt (first | assumption | lia | k_extra "my item")) (by k_dflt tb_start) ?_) | k_dflt (refine item_Si (by lia) (by first | lia | k_extra "my item") (by tb_start) ?_))
  k_with "subscriptTail Attribute Attribute str int" => (k_here; (with_reducible show wpAny _ _ (subscriptTail _ _ (Value.str (S _) _) (Value.int _ _)) _ _ _); first | (with_reducible refine item_S (by k_dflt (first | assumption | lia | k_extra "my item")) (by k_dflt tb_start) ?_) | k_dflt (refine item_Si (by lia) (by first | lia | k_extra "my item") (by tb_start) ?_))
  k_with "truthy ref" => (k_here; k_dflt (refine' truthy_meth ?N ?q ?_; (case N => k_asm); (case q => k_mem); k_whole))
  k_with "exec For Name Name cons nil" => (k_here; (with_reducible rename Fr _ _ _ _ => lF'); k_dflt (refine' For_invVF lF' ?k1 ?k2 ?_; (case k1 => exact rfl); (case k2 => exact rfl); k_whole))
  k_with "exec For Name Subscript cons nil" => (k_here; (with_reducible rename Fr _ _ _ _ => lF'); k_dflt (refine' For_invVF lF' ?k1 ?k2 ?_; (case k1 => exact rfl); (case k2 => exact rfl); k_whole))
  k_with "all" => (refine List.forall_mem_append.mpr ⟨?a, ?b⟩; (case a => k_all); (case b => k_all))
  k_with "rel" => (simp only [List.size_toArray]; rw [PySem.sizeLine_eq]; lia)
  k_with "call builtin:list.append" => (k_here; (with_reducible show wpAny _ _ (call (Value.builtin _) [Value.ref _, _]) _ _ _); k_dflt (refine' append_K ?k1 ?k2 ?k3 ?_ ?z; (case k1 => k_asm); (case k2 => k_asm); (case k3 => k_upd); (case z => tb_rel); k_whole); intro h' F' N'; (try simp only [List.push_toArray] at N'); (try k_sweep))
  k_with "enter" => (refine' code_def ?k1 ?k2 ?k3 ?k4 ?k5 ?kA ?kF ?kK ?k6 ?k7 ?k8 ?k9 ?kB ?_ ?c2 ?c3 ?c4 ?c5; (case kA => exact rfl); (case kF => exact rfl); (case kK => assumption); (case k1 => k_asm); (case k2 => k_asm); (case k3 => k_asm); (case k4 => k_asm); (case k5 => k_asm); (case k6 => k_is); (case k7 => k_is); (case k8 => ktr_room); (case k9 => first | exact BindsTo.of_eq rfl | exact binds_K (by k_in) rfl (by k_is) rfl rfl rfl); (case c5 => decide); (case kB => exact locs rfl); (case c2 => exact rfl); (case c3 => exact rfl); (case c4 => exact rfl); k_whole; intro g' L' h' FG' F' N' B' X' T'; (try dsimp only); (try k_lift B'); (try k_fold))
  k_with "JoinP" => (dsimp only [JoinP])
  k_with "subscriptTail" => (k_here; (with_reducible show wpAny _ _ (subscriptTail _ _ (Value.str (S _) _) (Value.int _ _)) _ _ _); first | (with_reducible refine item_S (by k_dflt (first | assumption | lia | k_extra "my item")) (by k_dflt tb_start) ?_) | k_dflt (refine item_Si (by lia) (by first | lia | k_extra "my item") (by tb_start) ?_))
  k_with "compareOp Eq str str" => ((with_reducible show wpAny _ _ (compareOp CmpOp.Eq (Value.str (S _) _) (Value.str (Str.ofString _) _)) _ _ _); k_dflt (first | refine eq_lit [13] (by decide +kernel) ?_ | refine eq_lit [10] (by decide +kernel) ?_))
  k_with "compareOp NotEq str str" => ((with_reducible show wpAny _ _ (compareOp CmpOp.NotEq (Value.str (S _) _) (Value.str (Str.ofString _) _)) _ _ _); k_dflt (first | refine ne_lit [13] (by decide +kernel) ?_ | refine ne_lit [10] (by decide +kernel) ?_))
  k_with "inplaceOp Add str str" => ((with_reducible show wpAny _ _ (inplaceOp Operator.Add (Value.str (S _) _) (Value.str (Str.ofString _) _)) _ _ _); k_dflt (refine iadd_lit [10] (by decide +kernel) (by tb_start) ?_); intro _ _)
  k_with "room" => (k_dflt ((first | apply room4 | apply room3 | apply room2 | apply room1 | apply room0 | apply roomz); assumption; exact rfl))
  k_with "setAttr ref" => (k_here; k_dflt (refine' set_dict ?sk1 ?sk2 ?sk3 ?sk4 ?sk5 ?sk6 ?sk7 ?sk8 ?sk9 ?sk10 ?sk11 ?sk12 ?sk13 ?_; (case sk1 => k_asm); (case sk2 => k_asm); (case sk3 => k_asm); (case sk4 => k_inst); (case sk5 => exact rfl); (case sk6 => k_is); (case sk7 => k_is); (case sk8 => k_is); (case sk9 => k_is); (case sk10 => k_get); (case sk11 => k_put); (case sk12 => k_upd); (case sk13 => exact Nat.le_of_ble_eq_true rfl); k_whole); intro h' F' N'; (try dsimp only at N'); (try k_sweep))
  k_with "ne" => (refine neN ?_; first | exact Nat.ne_of_gt (by assumption) | exact Nat.ne_of_gt (And.left (by assumption)) | exact Nat.ne_of_gt (And.left (And.right (by assumption))) | exact Nat.ne_of_gt (And.left (And.right (And.right (by assumption)))) | exact Nat.ne_of_gt (And.left (And.right (And.right (And.right (by assumption))))) | exact Nat.ne_of_gt (And.left (And.right (And.right (And.right (And.right (by assumption)))))) | exact Nat.ne_of_lt (by assumption) | exact Nat.ne_of_lt (And.left (by assumption)) | exact Nat.ne_of_lt (And.left (And.right (by assumption))) | exact Nat.ne_of_lt (And.left (And.right (And.right (by assumption)))) | exact Nat.ne_of_lt (And.left (And.right (And.right (And.right (by assumption))))) | exact Nat.ne_of_lt (And.left (And.right (And.right (And.right (And.right (by assumption)))))))
  k_with "setAttr ref" => ((with_reducible show wpAny _ _ (setAttr (Value.ref _) _ (Value.str (Str.ofString "") _)) _ _ _); rw [of_empty])
  k_with "all" => (first | exact ne_allLt (by assumption) | exact ne_allLt (And.right (by assumption)) | exact ne_allLt (And.right (And.right (by assumption))) | exact ne_allLt (And.right (And.right (And.right (by assumption)))) | exact ne_allLt (And.right (And.right (And.right (And.right (by assumption))))) | exact ne_allLt (And.right (And.right (And.right (And.right (And.right (by assumption)))))))
  k_dflt (refine' call_cls ?k1 ?k2 ?k3 ?k4 ?k5 ?k6 ?_; (case k1 => k_asm); (case k2 => k_asm); (case k3 => k_asm); (case k4 => k_is); (case k5 => k_is); (case k6 => k_is); k_whole; intro x' d' h' F' N' l1 l2; (try k_lt l1); (try k_lt2 l2); (try k_sweep); k_extra "enter")
  k_steps
  · have hA : ∀ {d x q nl dT xT e : Nat}, (d < x) → (x < q) → (q < nl) → (nl < dT) → (dT < xT) → (xT < e) → d < x ∧ x < q ∧ q < nl ∧ nl < dT ∧ dT < xT ∧ xT < e := fun a b c d e f => ⟨a, b, c, d, e, f⟩
    have hA2 := hA l2 (And.left (by assumption)) (And.left (by assumption)) (And.left (by assumption)) (by assumption) (And.left (by assumption))
    exact hret _ _ _ _ _ (.mk (ev := []) hA2 (off_lt hA2 l1) .nil .none) (by assumption) (by assumption)
end
def lawDef : Option Stmt := PySem.Challenge.pw_te0074_05.main.body.getLast?
def lawB : List Stmt := match lawDef with | some (.FunctionDef _ _ b _ _ _ _ _ _ _) => b | _ => []
def lawSc : Scope := match lawDef with | some (.FunctionDef _ _ _ _ _ _ sc _ _ _) => sc | _ => default
def forB : List Stmt := match lawB.drop 12 with | .For _ _ b _ _ :: _ => b | _ => []
theorem str_eq {a b : List Nat} {t : Tok} (h : a = b) : some (Value.str (S a) t) = some (Value.str (S b) t) := by rw [h]
theorem take_snoc {T : List Nat} {p c : Nat} (hp : p < T.length) (hc : c = T.getD p 0) : T.take p ++ [c] = T.take (p + 1) := by
  rw [List.take_add_one, List.getElem?_eq_getElem hp, hc, List.getD_eq_getElem?_getD, List.getElem?_eq_getElem hp]
  rfl
theorem take_back {T : List Nat} {p : Nat} (hp : p < T.length) : (T.take (p + 1)).dropLast = T.take p := by
  rw [← take_snoc hp rfl, List.dropLast_concat]
theorem take_run {T l : List Nat} {p : Nat} {P : Nat → Bool} {b : Bool} (hl : l = runL P b (T.drop p)) : T.take p ++ l = T.take (p + l.length) := by
  rw [List.take_add]
  congr 1
  rw [hl]
  exact runL_take _ _ _
/-- what stands in the frame while the deeds are done -/
abbrev base5 (xA xB Dg Ds : Addr) (k : Nat) (q : Nat × Nat) (tl tc tk : Tok) (us : Option Value) (vt vs : Value) : Str → Option Value := fun y => if y = Str.ofString "columns" then some (.int (q.2 : Int) tc) else if y = Str.ofString "lines" then some (.int (q.1 : Int) tl) else if y = Str.ofString "sign" then us else if y = Str.ofString "rest" then some (.ref xB) else if y = Str.ofString "whole" then some (.ref xA) else if y = Str.ofString "cut" then some (.int (k : Int) tk) else if y = Str.ofString "signs" then some (.ref Dg) else if y = Str.ofString "spelled" then some (.ref Ds) else if y = Str.ofString "numbers" then some vt else List.lookup y [(Str.ofString "script", vs)].reverse
inductive FrL5 (base : Str → Option Value) (T : List Nat) (p : Nat) (fr : Option Nat) (m' : Str → Option Value) : Prop
  | mk (u0 u1 u2 u3 : Option Value) (tr : Tok) (v : Value) (hv : BufIs v fr) (hm : m' = fun y => if y = Str.ofString "n" then u0 else if y = Str.ofString "run" then u1 else if y = Str.ofString "line" then u2 else if y = Str.ofString "column" then u3 else if y = Str.ofString "read" then some (.str (S (T.take p)) tr) else if y = Str.ofString "fresh" then some v else base y)
theorem FrL5.of {base : Str → Option Value} {T : List Nat} {p : Nat} {fr : Option Nat} {m' : Str → Option Value} {v : Value} (hr : ∃ t, m' (Str.ofString "read") = some (.str (S (T.take p)) t)) (hv : BufIs v fr) (hf : m' (Str.ofString "fresh") = some v)
    (hb : ∀ z, z ≠ Str.ofString "n" → z ≠ Str.ofString "run" → z ≠ Str.ofString "line" → z ≠ Str.ofString "column" → z ≠ Str.ofString "read" → z ≠ Str.ofString "fresh" → m' z = base z) : FrL5 base T p fr m' := by
  obtain ⟨tr, hr⟩ := hr
  exact ⟨m' (Str.ofString "n"), m' (Str.ofString "run"), m' (Str.ofString "line"), m' (Str.ofString "column"), tr, v, hv, funext fun z => lit1 rfl fun a0 => lit1 rfl fun a1 => lit1 rfl fun a2 => lit1 rfl fun a3 => lit1 hr fun a4 => lit1 hf fun a5 => hb z a0 a1 a2 a3 a4 a5⟩
section
variable {w : World} {RA RB : List Nat} {r0 nB news : List (Addr × Obj)} {adA adB : List Nat} {xA xB : Nat} {ckA ckB : List Nat} {szA ofA szB ofB : Int} {erA erB : Nat} {plA pcA plB pcB : Int} {bfA bfB : Option Nat} {paA paB : Int}
/-- the stream behind comes to the front -/
theorem led_swap (hB : LedR w RB r0 adB xB ckB szB ofB erB plB pcB bfB paB nB) (hA : LedR w RA nB adA xA ckA szA ofA erA plA pcA bfA paA news) :
    ∃ nA n', LedR w RA r0 adA xA ckA szA ofA erA plA pcA bfA paA nA ∧ LedR w RB nA adB xB ckB szB ofB erB plB pcB bfB paB n' ∧ ∀ q ∈ n', q ∈ news := by
  have hOA := hA.off
  have hOB := hB.off
  obtain ⟨nA7, hA7, rfl⟩ := LedR.part (rest := []) (own := nB) hA
  obtain ⟨nB7, hB7, rfl⟩ := LedR.part (rest := []) (own := r0) hB
  have eA := hA7.addr
  have eB := hB7.addr
  refine ⟨nA7 ++ r0, nB7 ++ (nA7 ++ r0), LedR.app (rest := []) hA7 (fun p hp => hOA p (List.mem_append.mpr (.inr hp))), LedR.app (rest := []) hB7 (fun p hp b hb => ?_), fun q hq => ?_⟩
  · rcases List.mem_append.mp hp with hp | hp
    · have h1 : p.1 ∈ adA := by
        have : p.1 ∈ nA7.map (·.1) := List.mem_map.mpr ⟨p, hp, rfl⟩
        rw [eA] at this
        simpa using this
      have h2 : b ∈ nB7.map (·.1) := by rw [eB]; simpa using hb
      obtain ⟨q, hq, rfl⟩ := List.mem_map.mp h2
      exact (hOA q (List.mem_append.mpr (.inl hq)) _ h1).symm
    · exact hOB p hp b hb
  · rcases List.mem_append.mp hq with hq | hq
    · exact List.mem_append.mpr (.inr (List.mem_append.mpr (.inl hq)))
    · rcases List.mem_append.mp hq with hq | hq
      · exact List.mem_append.mpr (.inl hq)
      · exact List.mem_append.mpr (.inr (List.mem_append.mpr (.inr hq)))
end
theorem truthy_one {prog : Program} {w : World} {A : Around} {E : Value → Shared → Prop} {s : Shared} {c : Nat} {t : Tok} {Q : Bool → Shared → Prop} (h : ∀ k, Q true { s with toks := k }) : wpAny (model prog w) A (truthy (.str (S [c]) t)) Q E s := by
  refine truthy_S (Nat.le_of_ble_eq_true rfl) ?_
  rw [decide_eq_true (List.cons_ne_nil c [])]
  exact h _
def Fresh5 (R2 : List Nat) (stA stB : St) (p : Nat) (fr : Option Nat) : Prop := ∀ c, fr = some c → ∃ p1, p = p1 + 1 ∧ p1 < (norm R2).length ∧ c = (norm R2).getD p1 0 ∧ 0 < stA.off ∧ 0 < stB.off
theorem Fresh5.none {R2 : List Nat} {stA stB : St} {p : Nat} : Fresh5 R2 stA stB p .none := fun c h => by cases h
section
variable {w : World} {mean : ExcName → Option Value} {mg mb : Str → Option Value} {R R2 : List Nat} {r0 nK news : List (Addr × Obj)} {adA adB : List Nat} {xA xB : Nat} {stA stB : St} {k p : Nat} {Dg Ds : Addr} {q : Nat × Nat} {tq1 tq2 tq3 : Tok} {us : Option Value} {vt vs : Value}
set_option maxRecDepth 100000 in
set_option maxHeartbeats 4000000 in
theorem d0a (hK : LedIs w R r0 adA xA stA nK) (hF : LedIs w R2 nK adB xB stB news) (h5 : Two5 R R2 k stA stB p)
    (bd : Stmt) (tl : List Stmt) (sc : Scope) (hb : forB.drop 0 = bd :: tl) (hs : lawSc = sc) (n : Int) {t0 tr : Tok} {u1 u2 u3 : Option Value} {v : Value}
    (dp un : Nat) (gd : Option (List Code)) (a : Addr) (ccd : Value) (cl : List (Str × Addr)) (outer : List Env) (A₀ : Around) (base h₀ : Heap) (L : Addr) (s : Shared) (Q : Flow → Shared → Prop) (E : Value → Shared → Prop)
    (B : Below A₀ base outer h₀) (F : Fr h₀ L s.heap (fun y => if y = Str.ofString "n" then some (.int n t0) else if y = Str.ofString "run" then u1 else if y = Str.ofString "line" then u2 else if y = Str.ofString "column" then u3 else if y = Str.ofString "read" then some (.str (S ((norm R2).take p)) tr) else if y = Str.ofString "fresh" then some v else base5 xA xB Dg Ds k q tq1 tq2 tq3 us vt vs y))
    (X : (hd05.heap_39 w.params).In h₀) (N : News h₀ L s.heap news) (T : Top hd05.view_39 loose mean mg mb h₀) (hd : dp + 100 < recursionLimit) (hu : un + 800 < cLine) (hE : PassesOwn (model PySem.Challenge.pw_te0074_05 w) (ktrTop dp un gd (Str.ofString "law") sc L a ccd cl outer) (envOf (Str.ofString "law") sc L a ccd) E)
    (hw : (n.fdiv 12).fmod 4 = 0) (hret : ∀ h' tk' m' (stA' stB' : St) (p' : Nat) (fr' : Option Nat) nK' nw', FrL5 (base5 xA xB Dg Ds k q tq1 tq2 tq3 us vt vs) (norm R2) p' fr' m' → Two5 R R2 k stA' stB' p' → Fresh5 R2 stA' stB' p' fr' → LedIs w R r0 adA xA stA' nK' → LedIs w R2 nK' adB xB stB' nw' → Fr h₀ L h' m' → News h₀ L h' nw' → Q .next { s with heap := h', toks := tk' }) :
    wpAny (model PySem.Challenge.pw_te0074_05 w) (ktrTop dp un gd (Str.ofString "law") sc L a ccd cl outer) (exec bd (envOf (Str.ofString "law") sc L a ccd)) Q E s := by
  conv at hb => lhs; whnf
  conv at hs => lhs; whnf
  cases hb
  subst hs
  have hl2 := norm28 h5.rB
  obtain ⟨a1, a2, a3, a4, a5⟩ := h5.okA
  obtain ⟨b1, b2, b3, b4, b5⟩ := h5.okB
  have hch := h5.char
  unfold LedIs at hK hF
  k_with_none
  k_with "tb" => (first | assumption | (apply le3; assumption; exact rfl) | lia | (simp only [List.length_append, List.length_cons, List.length_nil, List.length_take, List.length_drop, List.length_dropLast, crs_len, partOf_len] at *; lia) | ((with_reducible refine Nat.le_trans (crlf_len _) ?_); tb_start) | ((with_reducible refine Nat.le_trans (split_len _) ?_); tb_start) | ((with_reducible refine Nat.le_trans (norm_len _) ?_); tb_start))
  k_with "call builtin:str.count" => (refine count4 (by decide +kernel) (by first | assumption | lia) ?_)
  k_with "call builtin:str.rfind" => (refine rfind4 (by decide +kernel) (by first | assumption | lia) ?_)
  k_with "call builtin:str.replace" => ((try dsimp only at *); k_dflt (refine repl_crlf_S (by decide +kernel) (by decide +kernel) (by k_ne) (by k_ne) (by k_ne) (by tb_start) ?_); intro _ _ _)
  k_with "call builtin:str.replace" => ((try dsimp only at *); k_dflt (refine repl_cr_S (by decide +kernel) (by decide +kernel) (by k_ne) (by k_ne) (by k_ne) (by tb_start) ?_); intro _ _ _)
  k_with "call builtin:len" => ((with_reducible show wpAny _ _ (call (Value.builtin "len") [Value.str (S _) _]) _ _ _); refine len_S (by tb_start) ?_)
  k_with "call builtin:ord" => ((with_reducible show wpAny _ _ (call (Value.builtin "ord") [Value.str (S _) _]) _ _ _); refine ord_S ?_)
  k_with "binaryOp Add str str" => ((with_reducible show wpAny _ _ (binaryOp Operator.Add (Value.str (S _) _) (Value.str (S _) _)) _ _ _); refine add_S (by tb_start) ?_; intro _ _)
  k_with "inplaceOp Add str str" => ((with_reducible show wpAny _ _ (inplaceOp Operator.Add (Value.str (S _) _) (Value.str (S _) _)) _ _ _); refine iadd_S (by tb_start) ?_; intro _ _)
  k_with "truthy str" => ((with_reducible show wpAny _ _ (truthy (Value.str (S _) _)) _ _ _); refine truthy_S (by tb_start) ?_)
  k_with "compareOp Eq str str" => ((with_reducible show wpAny _ _ (compareOp CmpOp.Eq (Value.str (S _) _) (Value.str (S _) _)) _ _ _); refine eq_S ?_)
  k_with "compareOp NotEq str str" => ((with_reducible show wpAny _ _ (compareOp CmpOp.NotEq (Value.str (S _) _) (Value.str (S _) _)) _ _ _); refine ne_S ?_)
  k_with "subscriptTail Name Slice str ref" => (k_here; (with_reducible rename Fr _ _ _ _ => F'); (with_reducible rename News _ _ _ _ => N'); k_dflt (refine drop_S (s := ⟨_, _, _, _, _⟩) F' N' (by tb_start) ?_); intro _ _ _ _ _; (try k_sweep))
  k_with "subscriptTail Name Slice str ref" => (k_here; (with_reducible rename Fr _ _ _ _ => F'); (with_reducible rename News _ _ _ _ => N'); k_dflt (refine take_S (s := ⟨_, _, _, _, _⟩) F' N' (by tb_start) ?_); intro _ _ _ _ _; (try k_sweep))
  k_with "subscriptTail Name Slice str ref" => (k_here; (with_reducible rename Fr _ _ _ _ => F'); (with_reducible rename News _ _ _ _ => N'); k_dflt (refine mid_S (s := ⟨_, _, _, _, _⟩) F' N' (by tb_start) ?_); intro _ _ _ _ _; (try k_sweep))
  k_with "subscriptTail Name Slice str ref" => (k_here; (with_reducible rename Fr _ _ _ _ => F'); (with_reducible rename News _ _ _ _ => N'); k_dflt (refine part_S (s := ⟨_, _, _, _, _⟩) F' N' (by tb_start) ?_); intro _ _ _ _ _; (try k_sweep))
  k_with "subscriptTail Name Slice str ref" => (k_here; (with_reducible rename Fr _ _ _ _ => F'); (with_reducible rename News _ _ _ _ => N'); k_dflt (refine init_S (s := ⟨_, _, _, _, _⟩) F' N' (by tb_start) ?_); intro _ _ _ _ _; (try k_sweep))
  k_with "subscriptTail Name UnaryOp str int" => (k_here; (with_reducible show wpAny _ _ (subscriptTail _ _ (Value.str (S _) _) (Value.int _ _)) _ _ _); k_dflt (first | (refine last_S (by first | assumption | (intro hz; simp only [hz, List.length_nil] at *; lia)) (by tb_start) ?_) | (refine item_S (by first | assumption | lia | k_extra "my item") (by tb_start) ?_)))
  k_with "subscriptTail Name Name str int" => (k_here; (with_reducible show wpAny _ _ (subscriptTail _ _ (Value.str (S _) _) (Value.int _ _)) _ _ _); first | (with_reducible refine item_S (by k_dflt (first | assumption | lia | k_extra "my item")) (by k_dflt tb_start) ?_) | k_dflt (refine item_Si (by lia) (by first | lia | k_extra "my item") (by tb_start) ?_))
  k_with "subscriptTail Name Constant str int" => (k_here; (with_reducible show wpAny _ _ (subscriptTail _ _ (Value.str (S _) _) (Value.int _ _)) _ _ _); first | (with_reducible refine item_S (by k_dflt (first | assumption | lia | k_extra "my item")) (by k_dflt tb_start) ?_) | k_dflt (refine item_Si (by lia) (by first | lia | k_extra "my item") (by tb_start) ?_))
  k_with "subscriptTail Name BinOp str int" => (k_here; (with_reducible show wpAny _ _ (subscriptTail _ _ (Value.str (S _) _) (Value.int _ _)) _ _ _); first | (with_reducible refine item_S (by k_dflt (first | assumption | lia | k_extra "my item")) (by k_dflt tb_start) ?_) | k_dflt (refine item_Si (by lia) (by first | lia | k_extra "my item") (by tb_start) ?_))
  k_with "subscriptTail Attribute Name str int" => (k_here; (with_reducible show wpAny _ _ (subscriptTail _ _ (Value.str (S _) _) (Value.int _ _)) _ _ _); first | (with_reducible refine item_S (by k_dflt (first | assumption | lia | k_extra "my item")) (by k_dflt tb_start) ?_) | k_dflt (refine item_Si (by lia) (by first | lia | k_extra "my item") (by tb_start) ?_))
  k_with "subscriptTail Attribute Constant str int" => (k_here; (with_reducible show wpAny _ _ (subscriptTail _ _ (Value.str (S _) _) (Value.int _ _)) _ _ _); first | (with_reducible refine item_S (by k_dflt (first | assumption | lia | k_extra "my item")) (by k_dflt tb_start) ?_) | k_dflt (refine item_Si (by lia) (by first | lia | k_extra "my item") (by tb_start) ?_))
  k_with "subscriptTail Attribute Attribute str int" => (k_here; (with_reducible show wpAny _ _ (subscriptTail _ _ (Value.str (S _) _) (Value.int _ _)) _ _ _); first | (with_reducible refine item_S (by k_dflt (first | assumption | lia | k_extra "my item")) (by k_dflt tb_start) ?_) | k_dflt (refine item_Si (by lia) (by first | lia | k_extra "my item") (by tb_start) ?_))
  k_with "truthy ref" => (k_here; k_dflt (refine' truthy_meth ?N ?q ?_; (case N => k_asm); (case q => k_mem); k_whole))
  k_with "exec For Name Name cons nil" => (k_here; (with_reducible rename Fr _ _ _ _ => lF'); k_dflt (refine' For_invVF lF' ?k1 ?k2 ?_; (case k1 => exact rfl); (case k2 => exact rfl); k_whole))
  k_with "exec For Name Subscript cons nil" => (k_here; (with_reducible rename Fr _ _ _ _ => lF'); k_dflt (refine' For_invVF lF' ?k1 ?k2 ?_; (case k1 => exact rfl); (case k2 => exact rfl); k_whole))
  k_with "all" => (refine List.forall_mem_append.mpr ⟨?a, ?b⟩; (case a => k_all); (case b => k_all))
  k_with "rel" => (simp only [List.size_toArray]; rw [PySem.sizeLine_eq]; lia)
  k_with "call builtin:list.append" => (k_here; (with_reducible show wpAny _ _ (call (Value.builtin _) [Value.ref _, _]) _ _ _); k_dflt (refine' append_K ?k1 ?k2 ?k3 ?_ ?z; (case k1 => k_asm); (case k2 => k_asm); (case k3 => k_upd); (case z => tb_rel); k_whole); intro h' F' N'; (try simp only [List.push_toArray] at N'); (try k_sweep))
  k_with "enter" => (refine' code_def ?k1 ?k2 ?k3 ?k4 ?k5 ?kA ?kF ?kK ?k6 ?k7 ?k8 ?k9 ?kB ?_ ?c2 ?c3 ?c4 ?c5; (case kA => exact rfl); (case kF => exact rfl); (case kK => assumption); (case k1 => k_asm); (case k2 => k_asm); (case k3 => k_asm); (case k4 => k_asm); (case k5 => k_asm); (case k6 => k_is); (case k7 => k_is); (case k8 => ktr_room); (case k9 => first | exact BindsTo.of_eq rfl | exact binds_K (by k_in) rfl (by k_is) rfl rfl rfl); (case c5 => decide); (case kB => exact locs rfl); (case c2 => exact rfl); (case c3 => exact rfl); (case c4 => exact rfl); k_whole; intro g' L' h' FG' F' N' B' X' T'; (try dsimp only); (try k_lift B'); (try k_fold))
  k_with "JoinP" => (dsimp only [JoinP])
  k_with "subscriptTail" => (k_here; (with_reducible show wpAny _ _ (subscriptTail _ _ (Value.str (S _) _) (Value.int _ _)) _ _ _); first | (with_reducible refine item_S (by k_dflt (first | assumption | lia | k_extra "my item")) (by k_dflt tb_start) ?_) | k_dflt (refine item_Si (by lia) (by first | lia | k_extra "my item") (by tb_start) ?_))
  k_with "compareOp Eq str str" => ((with_reducible show wpAny _ _ (compareOp CmpOp.Eq (Value.str (S _) _) (Value.str (Str.ofString _) _)) _ _ _); k_dflt (first | refine eq_lit [13] (by decide +kernel) ?_ | refine eq_lit [10] (by decide +kernel) ?_))
  k_with "compareOp NotEq str str" => ((with_reducible show wpAny _ _ (compareOp CmpOp.NotEq (Value.str (S _) _) (Value.str (Str.ofString _) _)) _ _ _); k_dflt (first | refine ne_lit [13] (by decide +kernel) ?_ | refine ne_lit [10] (by decide +kernel) ?_))
  k_with "inplaceOp Add str str" => ((with_reducible show wpAny _ _ (inplaceOp Operator.Add (Value.str (S _) _) (Value.str (Str.ofString _) _)) _ _ _); k_dflt (refine iadd_lit [10] (by decide +kernel) (by tb_start) ?_); intro _ _)
  k_with "room" => (k_dflt ((first | apply room4 | apply room3 | apply room2 | apply room1 | apply room0 | apply roomz); assumption; exact rfl))
  k_with "getAttr ref" => ((with_reducible show wpAny _ _ (getAttr (Value.ref _) (Str.ofString "errors") _) _ _ _); k_dflt (refine g_errors (by assumption) (by k_asm) (by k_asm) ?N ?_; (case N => first | k_asm | exact News.sub (by k_asm) (fun q hq => LedR.mem_rest (by assumption) hq) | exact News.sub (News.tl (by k_asm)) (fun q hq => LedR.mem_rest (by assumption) hq) | exact News.sub (News.tl (News.tl (by k_asm))) (fun q hq => LedR.mem_rest (by assumption) hq) | exact News.tl (by k_asm) | exact News.tl (News.tl (by k_asm)) | exact News.tl (News.tl (News.tl (by k_asm))))); intro _ hE1)
  k_with "getMethod ref" => ((with_reducible show wpAny _ _ (getMethod (Value.ref _) (Str.ofString "position") _) _ _ _); k_dflt (refine m_pos (by assumption) (by k_asm) (by k_asm) ?N ?_; (case N => first | k_asm | exact News.sub (by k_asm) (fun q hq => LedR.mem_rest (by assumption) hq) | exact News.sub (News.tl (by k_asm)) (fun q hq => LedR.mem_rest (by assumption) hq) | exact News.sub (News.tl (News.tl (by k_asm))) (fun q hq => LedR.mem_rest (by assumption) hq) | exact News.tl (by k_asm) | exact News.tl (News.tl (by k_asm)) | exact News.tl (News.tl (News.tl (by k_asm))))))
  k_with "getMethod ref" => ((with_reducible show wpAny _ _ (getMethod (Value.ref _) (Str.ofString "char") _) _ _ _); k_dflt (refine m_char (by assumption) (by k_asm) (by k_asm) ?N ?_; (case N => first | k_asm | exact News.sub (by k_asm) (fun q hq => LedR.mem_rest (by assumption) hq) | exact News.sub (News.tl (by k_asm)) (fun q hq => LedR.mem_rest (by assumption) hq) | exact News.sub (News.tl (News.tl (by k_asm))) (fun q hq => LedR.mem_rest (by assumption) hq) | exact News.tl (by k_asm) | exact News.tl (News.tl (by k_asm)) | exact News.tl (News.tl (News.tl (by k_asm))))))
  k_with "getMethod ref" => ((with_reducible show wpAny _ _ (getMethod (Value.ref _) (Str.ofString "readChunk") _) _ _ _); k_dflt (refine m_chunk (by assumption) (by k_asm) (by k_asm) ?N ?_; (case N => first | k_asm | exact News.sub (by k_asm) (fun q hq => LedR.mem_rest (by assumption) hq) | exact News.sub (News.tl (by k_asm)) (fun q hq => LedR.mem_rest (by assumption) hq) | exact News.sub (News.tl (News.tl (by k_asm))) (fun q hq => LedR.mem_rest (by assumption) hq) | exact News.tl (by k_asm) | exact News.tl (News.tl (by k_asm)) | exact News.tl (News.tl (News.tl (by k_asm))))))
  k_with "getMethod ref" => ((with_reducible show wpAny _ _ (getMethod (Value.ref _) (Str.ofString "unget") _) _ _ _); k_dflt (refine m_unget (by assumption) (by k_asm) (by k_asm) ?N ?_; (case N => first | k_asm | exact News.sub (by k_asm) (fun q hq => LedR.mem_rest (by assumption) hq) | exact News.sub (News.tl (by k_asm)) (fun q hq => LedR.mem_rest (by assumption) hq) | exact News.sub (News.tl (News.tl (by k_asm))) (fun q hq => LedR.mem_rest (by assumption) hq) | exact News.tl (by k_asm) | exact News.tl (News.tl (by k_asm)) | exact News.tl (News.tl (News.tl (by k_asm))))))
  k_with "getMethod ref" => ((with_reducible show wpAny _ _ (getMethod (Value.ref _) (Str.ofString "charsUntil") _) _ _ _); k_dflt (refine m_until (by assumption) (by k_asm) (by k_asm) ?N ?_; (case N => first | k_asm | exact News.sub (by k_asm) (fun q hq => LedR.mem_rest (by assumption) hq) | exact News.sub (News.tl (by k_asm)) (fun q hq => LedR.mem_rest (by assumption) hq) | exact News.sub (News.tl (News.tl (by k_asm))) (fun q hq => LedR.mem_rest (by assumption) hq) | exact News.tl (by k_asm) | exact News.tl (News.tl (by k_asm)) | exact News.tl (News.tl (News.tl (by k_asm))))))
  k_with "truthy str" => ((with_reducible show wpAny _ _ (truthy (Value.str (S [_]) _)) _ _ _); refine truthy_one ?_; intro k9)
  k_with "compareOp NotEq str str" => ((with_reducible show wpAny _ _ (compareOp CmpOp.NotEq (Value.str (S _) _) (Value.str (S _) _)) _ _ _); k_dflt (refine ne_no rfl ?_))
  k_with "ite" => ((first | (with_reducible show if ((_ : Int) == _) = true then _ else _) | (with_reducible show if ((_ : Int) != _) = true then _ else _)); k_dflt (first | refine ite_pos (by simp only [beq_iff_eq, bne_iff_ne, ne_eq]; lia) ?_ | refine ite_neg (by simp only [beq_iff_eq, bne_iff_ne, ne_eq]; lia) ?_))
  k_with "inplaceOp Add str str" => ((with_reducible show wpAny _ _ (inplaceOp Operator.Add (Value.str (S _) _) (Value.str (Str.ofString "") _)) _ _ _); k_dflt (refine iadd_lit [] (by decide +kernel) (by tb_start) ?_); intro _ _)
  k_with "call ref" => ((with_reducible show wpAny _ _ (call (Value.ref 98) _) _ _ _); k_dflt ((refine' Spec.useS (char_some cB (char_spec (st := stB) hF b1 b2 b3 b4)) ?B ?F ?X ?N ?T ?hk ?hd ?hu ?_; (case B => k_asm); (case F => k_asm); (case X => k_asm); (case T => k_asm); (case hk => first | exact rfl | assumption); (case N => first | k_asm | exact News.tl (by k_asm) | exact News.tl (News.tl (by k_asm)) | exact News.tl (News.tl (News.tl (by k_asm)))); (case hd => ktr_room); (case hu => ktr_units); intro t' n' h' tk' hF9 hle' F' N'); (clear hF); (unfold LedIs at hF9); (try dsimp only); (try k_fold)))
  k_with "call ref" => ((with_reducible show wpAny _ _ (call (Value.ref 98) _) _ _ _); (obtain ⟨nB, n8, hKB, hFA, hsub⟩ := led_swap hK hF9); (with_reducible rename News _ _ _ _ => N9); (have N8 := News.sub N9 hsub); (clear N9 hK hF9); k_dflt ((refine' Spec.useS (char_some cA (char_spec (st := stA) hFA a1 a2 a3 a4)) ?B ?F ?X ?N ?T ?hk ?hd ?hu ?_; (case B => k_asm); (case F => k_asm); (case X => k_asm); (case T => k_asm); (case hk => first | exact rfl | assumption); (case N => first | k_asm | exact News.tl (by k_asm) | exact News.tl (News.tl (by k_asm)) | exact News.tl (News.tl (News.tl (by k_asm)))); (case hd => ktr_room); (case hu => ktr_units); intro t' n' h' tk' hA9 hle' F' N'); (clear hFA); (unfold LedIs at hA9); (try dsimp only); (try k_fold)))
  k_with "call ref" => ((with_reducible show wpAny _ _ (call (Value.ref 98) _) _ _ _); k_dflt ((refine' Spec.useV (char_none cB (char_spec (st := stB) hF b1 b2 b3 b4)) ?B ?F ?X ?N ?T ?hk ?hd ?hu ?_; (case B => k_asm); (case F => k_asm); (case X => k_asm); (case T => k_asm); (case hk => first | exact rfl | assumption); (case N => first | k_asm | exact News.tl (by k_asm) | exact News.tl (News.tl (by k_asm)) | exact News.tl (News.tl (News.tl (by k_asm)))); (case hd => ktr_room); (case hu => ktr_units); intro n' h' tk' hF9 hle' F' N'); (clear hF); (unfold LedIs at hF9); (try dsimp only); (try k_fold)))
  k_with "call ref" => ((with_reducible show wpAny _ _ (call (Value.ref 98) _) _ _ _); (obtain ⟨nB, n8, hKB, hFA, hsub⟩ := led_swap hK hF9); (with_reducible rename News _ _ _ _ => N9); (have N8 := News.sub N9 hsub); (clear N9 hK hF9); k_dflt ((refine' Spec.useV (char_none cA (char_spec (st := stA) hFA a1 a2 a3 a4)) ?B ?F ?X ?N ?T ?hk ?hd ?hu ?_; (case B => k_asm); (case F => k_asm); (case X => k_asm); (case T => k_asm); (case hk => first | exact rfl | assumption); (case N => first | k_asm | exact News.tl (by k_asm) | exact News.tl (News.tl (by k_asm)) | exact News.tl (News.tl (News.tl (by k_asm)))); (case hd => ktr_room); (case hu => ktr_units); intro n' h' tk' hA9 hle' F' N'); (clear hFA); (unfold LedIs at hA9); (try dsimp only); (try k_fold)))
  rcases hch with ⟨c, stA1, stB1, hp, hcc, cA, cB, h51, oA, oB⟩ | ⟨stA1, stB1, hp, cA, cB, h51⟩
  all_goals k_steps
  all_goals (
    rename Fr _ _ _ _ => F9
    rename News _ _ _ _ => N9
    obtain ⟨nF, n8, hK8, hF8, hsub⟩ := led_swap hKB hA9)
  · exact hret _ _ _ stA1 stB1 (p + 1) (some c) _ _ (FrL5.of ⟨_, str_eq (take_snoc hp hcc)⟩ .some rfl (fun z a0 a1 a2 a3 a4 a5 => (by repeat (first | with_reducible rfl | refine (if_neg (by assumption)).trans ?_ | rfl)))) h51 (fun d hd => by cases hd; exact ⟨p, rfl, hp, hcc, oA, oB⟩) hK8 hF8 F9 (News.sub N9 hsub)
  · exact hret _ _ _ stA1 stB1 p none _ _ (FrL5.of ⟨_, str_eq (List.append_nil _)⟩ .none rfl (fun z a0 a1 a2 a3 a4 a5 => (by repeat (first | with_reducible rfl | refine (if_neg (by assumption)).trans ?_ | rfl)))) h51 Fresh5.none hK8 hF8 F9 (News.sub N9 hsub)
set_option maxRecDepth 100000 in
set_option maxHeartbeats 4000000 in
theorem d0b (hK : LedIs w R r0 adA xA stA nK) (hF : LedIs w R2 nK adB xB stB news) (h5 : Two5 R R2 k stA stB p)
    (bd : Stmt) (tl : List Stmt) (sc : Scope) (hb : forB.drop 0 = bd :: tl) (hs : lawSc = sc) (n : Int) {t0 tr : Tok} {u1 u2 u3 : Option Value} {v : Value} {fr : Option Nat} (hv : BufIs v fr) (hfr : Fresh5 R2 stA stB p fr)
    (dp un : Nat) (gd : Option (List Code)) (a : Addr) (ccd : Value) (cl : List (Str × Addr)) (outer : List Env) (A₀ : Around) (base h₀ : Heap) (L : Addr) (s : Shared) (Q : Flow → Shared → Prop) (E : Value → Shared → Prop)
    (B : Below A₀ base outer h₀) (F : Fr h₀ L s.heap (fun y => if y = Str.ofString "n" then some (.int n t0) else if y = Str.ofString "run" then u1 else if y = Str.ofString "line" then u2 else if y = Str.ofString "column" then u3 else if y = Str.ofString "read" then some (.str (S ((norm R2).take p)) tr) else if y = Str.ofString "fresh" then some v else base5 xA xB Dg Ds k q tq1 tq2 tq3 us vt vs y))
    (X : (hd05.heap_39 w.params).In h₀) (N : News h₀ L s.heap news) (T : Top hd05.view_39 loose mean mg mb h₀) (hd : dp + 100 < recursionLimit) (hu : un + 800 < cLine) (hE : PassesOwn (model PySem.Challenge.pw_te0074_05 w) (ktrTop dp un gd (Str.ofString "law") sc L a ccd cl outer) (envOf (Str.ofString "law") sc L a ccd) E)
    (hw : (n.fdiv 12).fmod 4 = 3) (hret : ∀ h' tk' m' (stA' stB' : St) (p' : Nat) (fr' : Option Nat) nK' nw', FrL5 (base5 xA xB Dg Ds k q tq1 tq2 tq3 us vt vs) (norm R2) p' fr' m' → Two5 R R2 k stA' stB' p' → Fresh5 R2 stA' stB' p' fr' → LedIs w R r0 adA xA stA' nK' → LedIs w R2 nK' adB xB stB' nw' → Fr h₀ L h' m' → News h₀ L h' nw' → Q .next { s with heap := h', toks := tk' }) :
    wpAny (model PySem.Challenge.pw_te0074_05 w) (ktrTop dp un gd (Str.ofString "law") sc L a ccd cl outer) (exec bd (envOf (Str.ofString "law") sc L a ccd)) Q E s := by
  conv at hb => lhs; whnf
  conv at hs => lhs; whnf
  cases hb
  subst hs
  have hl2 := norm28 h5.rB
  obtain ⟨a1, a2, a3, a4, a5⟩ := h5.okA
  obtain ⟨b1, b2, b3, b4, b5⟩ := h5.okB
  unfold LedIs at hK hF
  k_with_none
  k_with "tb" => (first | assumption | (apply le3; assumption; exact rfl) | lia | (simp only [List.length_append, List.length_cons, List.length_nil, List.length_take, List.length_drop, List.length_dropLast, crs_len, partOf_len] at *; lia) | ((with_reducible refine Nat.le_trans (crlf_len _) ?_); tb_start) | ((with_reducible refine Nat.le_trans (split_len _) ?_); tb_start) | ((with_reducible refine Nat.le_trans (norm_len _) ?_); tb_start))
  k_with "call builtin:str.count" => (refine count4 (by decide +kernel) (by first | assumption | lia) ?_)
  k_with "call builtin:str.rfind" => (refine rfind4 (by decide +kernel) (by first | assumption | lia) ?_)
  k_with "call builtin:str.replace" => ((try dsimp only at *); k_dflt (refine repl_crlf_S (by decide +kernel) (by decide +kernel) (by k_ne) (by k_ne) (by k_ne) (by tb_start) ?_); intro _ _ _)
  k_with "call builtin:str.replace" => ((try dsimp only at *); k_dflt (refine repl_cr_S (by decide +kernel) (by decide +kernel) (by k_ne) (by k_ne) (by k_ne) (by tb_start) ?_); intro _ _ _)
  k_with "call builtin:len" => ((with_reducible show wpAny _ _ (call (Value.builtin "len") [Value.str (S _) _]) _ _ _); refine len_S (by tb_start) ?_)
  k_with "call builtin:ord" => ((with_reducible show wpAny _ _ (call (Value.builtin "ord") [Value.str (S _) _]) _ _ _); refine ord_S ?_)
  k_with "binaryOp Add str str" => ((with_reducible show wpAny _ _ (binaryOp Operator.Add (Value.str (S _) _) (Value.str (S _) _)) _ _ _); refine add_S (by tb_start) ?_; intro _ _)
  k_with "inplaceOp Add str str" => ((with_reducible show wpAny _ _ (inplaceOp Operator.Add (Value.str (S _) _) (Value.str (S _) _)) _ _ _); refine iadd_S (by tb_start) ?_; intro _ _)
  k_with "truthy str" => ((with_reducible show wpAny _ _ (truthy (Value.str (S _) _)) _ _ _); refine truthy_S (by tb_start) ?_)
  k_with "compareOp Eq str str" => ((with_reducible show wpAny _ _ (compareOp CmpOp.Eq (Value.str (S _) _) (Value.str (S _) _)) _ _ _); refine eq_S ?_)
  k_with "compareOp NotEq str str" => ((with_reducible show wpAny _ _ (compareOp CmpOp.NotEq (Value.str (S _) _) (Value.str (S _) _)) _ _ _); refine ne_S ?_)
  k_with "subscriptTail Name Slice str ref" => (k_here; (with_reducible rename Fr _ _ _ _ => F'); (with_reducible rename News _ _ _ _ => N'); k_dflt (refine drop_S (s := ⟨_, _, _, _, _⟩) F' N' (by tb_start) ?_); intro _ _ _ _ _; (try k_sweep))
  k_with "subscriptTail Name Slice str ref" => (k_here; (with_reducible rename Fr _ _ _ _ => F'); (with_reducible rename News _ _ _ _ => N'); k_dflt (refine take_S (s := ⟨_, _, _, _, _⟩) F' N' (by tb_start) ?_); intro _ _ _ _ _; (try k_sweep))
  k_with "subscriptTail Name Slice str ref" => (k_here; (with_reducible rename Fr _ _ _ _ => F'); (with_reducible rename News _ _ _ _ => N'); k_dflt (refine mid_S (s := ⟨_, _, _, _, _⟩) F' N' (by tb_start) ?_); intro _ _ _ _ _; (try k_sweep))
  k_with "subscriptTail Name Slice str ref" => (k_here; (with_reducible rename Fr _ _ _ _ => F'); (with_reducible rename News _ _ _ _ => N'); k_dflt (refine part_S (s := ⟨_, _, _, _, _⟩) F' N' (by tb_start) ?_); intro _ _ _ _ _; (try k_sweep))
  k_with "subscriptTail Name Slice str ref" => (k_here; (with_reducible rename Fr _ _ _ _ => F'); (with_reducible rename News _ _ _ _ => N'); k_dflt (refine init_S (s := ⟨_, _, _, _, _⟩) F' N' (by tb_start) ?_); intro _ _ _ _ _; (try k_sweep))
  k_with "subscriptTail Name UnaryOp str int" => (k_here; (with_reducible show wpAny _ _ (subscriptTail _ _ (Value.str (S _) _) (Value.int _ _)) _ _ _); k_dflt (first | (refine last_S (by first | assumption | (intro hz; simp only [hz, List.length_nil] at *; lia)) (by tb_start) ?_) | (refine item_S (by first | assumption | lia | k_extra "my item") (by tb_start) ?_)))
  k_with "subscriptTail Name Name str int" => (k_here; (with_reducible show wpAny _ _ (subscriptTail _ _ (Value.str (S _) _) (Value.int _ _)) _ _ _); first | (with_reducible refine item_S (by k_dflt (first | assumption | lia | k_extra "my item")) (by k_dflt tb_start) ?_) | k_dflt (refine item_Si (by lia) (by first | lia | k_extra "my item") (by tb_start) ?_))
  k_with "subscriptTail Name Constant str int" => (k_here; (with_reducible show wpAny _ _ (subscriptTail _ _ (Value.str (S _) _) (Value.int _ _)) _ _ _); first | (with_reducible refine item_S (by k_dflt (first | assumption | lia | k_extra "my item")) (by k_dflt tb_start) ?_) | k_dflt (refine item_Si (by lia) (by first | lia | k_extra "my item") (by tb_start) ?_))
  k_with "subscriptTail Name BinOp str int" => (k_here; (with_reducible show wpAny _ _ (subscriptTail _ _ (Value.str (S _) _) (Value.int _ _)) _ _ _); first | (with_reducible refine item_S (by k_dflt (first | assumption | lia | k_extra "my item")) (by k_dflt tb_start) ?_) | k_dflt (refine item_Si (by lia) (by first | lia | k_extra "my item") (by tb_start) ?_))
  k_with "subscriptTail Attribute Name str int" => (k_here; (with_reducible show wpAny _ _ (subscriptTail _ _ (Value.str (S _) _) (Value.int _ _)) _ _ _); first | (with_reducible refine item_S (by k_dflt (first | assumption | lia | k_extra "my item")) (by k_dflt tb_start) ?_) | k_dflt (refine item_Si (by lia) (by first | lia | k_extra "my item") (by tb_start) ?_))
  k_with "subscriptTail Attribute Constant str int" => (k_here; (with_reducible show wpAny _ _ (subscriptTail _ _ (Value.str (S _) _) (Value.int _ _)) _ _ _); first | (with_reducible refine item_S (by k_dflt (first | assumption | lia | k_extra "my item")) (by k_dflt tb_start) ?_) | k_dflt (refine item_Si (by lia) (by first | lia | k_extra "my item") (by tb_start) ?_))
  k_with "subscriptTail Attribute Attribute str int" => (k_here; (with_reducible show wpAny _ _ (subscriptTail _ _ (Value.str (S _) _) (Value.int _ _)) _ _ _); first | (with_reducible refine item_S (by k_dflt (first | assumption | lia | k_extra "my item")) (by k_dflt tb_start) ?_) | k_dflt (refine item_Si (by lia) (by first | lia | k_extra "my item") (by tb_start) ?_))
  k_with "truthy ref" => (k_here; k_dflt (refine' truthy_meth ?N ?q ?_; (case N => k_asm); (case q => k_mem); k_whole))
  k_with "exec For Name Name cons nil" => (k_here; (with_reducible rename Fr _ _ _ _ => lF'); k_dflt (refine' For_invVF lF' ?k1 ?k2 ?_; (case k1 => exact rfl); (case k2 => exact rfl); k_whole))
  k_with "exec For Name Subscript cons nil" => (k_here; (with_reducible rename Fr _ _ _ _ => lF'); k_dflt (refine' For_invVF lF' ?k1 ?k2 ?_; (case k1 => exact rfl); (case k2 => exact rfl); k_whole))
  k_with "all" => (refine List.forall_mem_append.mpr ⟨?a, ?b⟩; (case a => k_all); (case b => k_all))
  k_with "rel" => (simp only [List.size_toArray]; rw [PySem.sizeLine_eq]; lia)
  k_with "call builtin:list.append" => (k_here; (with_reducible show wpAny _ _ (call (Value.builtin _) [Value.ref _, _]) _ _ _); k_dflt (refine' append_K ?k1 ?k2 ?k3 ?_ ?z; (case k1 => k_asm); (case k2 => k_asm); (case k3 => k_upd); (case z => tb_rel); k_whole); intro h' F' N'; (try simp only [List.push_toArray] at N'); (try k_sweep))
  k_with "enter" => (refine' code_def ?k1 ?k2 ?k3 ?k4 ?k5 ?kA ?kF ?kK ?k6 ?k7 ?k8 ?k9 ?kB ?_ ?c2 ?c3 ?c4 ?c5; (case kA => exact rfl); (case kF => exact rfl); (case kK => assumption); (case k1 => k_asm); (case k2 => k_asm); (case k3 => k_asm); (case k4 => k_asm); (case k5 => k_asm); (case k6 => k_is); (case k7 => k_is); (case k8 => ktr_room); (case k9 => first | exact BindsTo.of_eq rfl | exact binds_K (by k_in) rfl (by k_is) rfl rfl rfl); (case c5 => decide); (case kB => exact locs rfl); (case c2 => exact rfl); (case c3 => exact rfl); (case c4 => exact rfl); k_whole; intro g' L' h' FG' F' N' B' X' T'; (try dsimp only); (try k_lift B'); (try k_fold))
  k_with "JoinP" => (dsimp only [JoinP])
  k_with "subscriptTail" => (k_here; (with_reducible show wpAny _ _ (subscriptTail _ _ (Value.str (S _) _) (Value.int _ _)) _ _ _); first | (with_reducible refine item_S (by k_dflt (first | assumption | lia | k_extra "my item")) (by k_dflt tb_start) ?_) | k_dflt (refine item_Si (by lia) (by first | lia | k_extra "my item") (by tb_start) ?_))
  k_with "compareOp Eq str str" => ((with_reducible show wpAny _ _ (compareOp CmpOp.Eq (Value.str (S _) _) (Value.str (Str.ofString _) _)) _ _ _); k_dflt (first | refine eq_lit [13] (by decide +kernel) ?_ | refine eq_lit [10] (by decide +kernel) ?_))
  k_with "compareOp NotEq str str" => ((with_reducible show wpAny _ _ (compareOp CmpOp.NotEq (Value.str (S _) _) (Value.str (Str.ofString _) _)) _ _ _); k_dflt (first | refine ne_lit [13] (by decide +kernel) ?_ | refine ne_lit [10] (by decide +kernel) ?_))
  k_with "inplaceOp Add str str" => ((with_reducible show wpAny _ _ (inplaceOp Operator.Add (Value.str (S _) _) (Value.str (Str.ofString _) _)) _ _ _); k_dflt (refine iadd_lit [10] (by decide +kernel) (by tb_start) ?_); intro _ _)
  k_with "room" => (k_dflt ((first | apply room4 | apply room3 | apply room2 | apply room1 | apply room0 | apply roomz); assumption; exact rfl))
  k_with "getAttr ref" => ((with_reducible show wpAny _ _ (getAttr (Value.ref _) (Str.ofString "errors") _) _ _ _); k_dflt (refine g_errors (by assumption) (by k_asm) (by k_asm) ?N ?_; (case N => first | k_asm | exact News.sub (by k_asm) (fun q hq => LedR.mem_rest (by assumption) hq) | exact News.sub (News.tl (by k_asm)) (fun q hq => LedR.mem_rest (by assumption) hq) | exact News.sub (News.tl (News.tl (by k_asm))) (fun q hq => LedR.mem_rest (by assumption) hq) | exact News.tl (by k_asm) | exact News.tl (News.tl (by k_asm)) | exact News.tl (News.tl (News.tl (by k_asm))))); intro _ hE1)
  k_with "getMethod ref" => ((with_reducible show wpAny _ _ (getMethod (Value.ref _) (Str.ofString "position") _) _ _ _); k_dflt (refine m_pos (by assumption) (by k_asm) (by k_asm) ?N ?_; (case N => first | k_asm | exact News.sub (by k_asm) (fun q hq => LedR.mem_rest (by assumption) hq) | exact News.sub (News.tl (by k_asm)) (fun q hq => LedR.mem_rest (by assumption) hq) | exact News.sub (News.tl (News.tl (by k_asm))) (fun q hq => LedR.mem_rest (by assumption) hq) | exact News.tl (by k_asm) | exact News.tl (News.tl (by k_asm)) | exact News.tl (News.tl (News.tl (by k_asm))))))
  k_with "getMethod ref" => ((with_reducible show wpAny _ _ (getMethod (Value.ref _) (Str.ofString "char") _) _ _ _); k_dflt (refine m_char (by assumption) (by k_asm) (by k_asm) ?N ?_; (case N => first | k_asm | exact News.sub (by k_asm) (fun q hq => LedR.mem_rest (by assumption) hq) | exact News.sub (News.tl (by k_asm)) (fun q hq => LedR.mem_rest (by assumption) hq) | exact News.sub (News.tl (News.tl (by k_asm))) (fun q hq => LedR.mem_rest (by assumption) hq) | exact News.tl (by k_asm) | exact News.tl (News.tl (by k_asm)) | exact News.tl (News.tl (News.tl (by k_asm))))))
  k_with "getMethod ref" => ((with_reducible show wpAny _ _ (getMethod (Value.ref _) (Str.ofString "readChunk") _) _ _ _); k_dflt (refine m_chunk (by assumption) (by k_asm) (by k_asm) ?N ?_; (case N => first | k_asm | exact News.sub (by k_asm) (fun q hq => LedR.mem_rest (by assumption) hq) | exact News.sub (News.tl (by k_asm)) (fun q hq => LedR.mem_rest (by assumption) hq) | exact News.sub (News.tl (News.tl (by k_asm))) (fun q hq => LedR.mem_rest (by assumption) hq) | exact News.tl (by k_asm) | exact News.tl (News.tl (by k_asm)) | exact News.tl (News.tl (News.tl (by k_asm))))))
  k_with "getMethod ref" => ((with_reducible show wpAny _ _ (getMethod (Value.ref _) (Str.ofString "unget") _) _ _ _); k_dflt (refine m_unget (by assumption) (by k_asm) (by k_asm) ?N ?_; (case N => first | k_asm | exact News.sub (by k_asm) (fun q hq => LedR.mem_rest (by assumption) hq) | exact News.sub (News.tl (by k_asm)) (fun q hq => LedR.mem_rest (by assumption) hq) | exact News.sub (News.tl (News.tl (by k_asm))) (fun q hq => LedR.mem_rest (by assumption) hq) | exact News.tl (by k_asm) | exact News.tl (News.tl (by k_asm)) | exact News.tl (News.tl (News.tl (by k_asm))))))
  k_with "getMethod ref" => ((with_reducible show wpAny _ _ (getMethod (Value.ref _) (Str.ofString "charsUntil") _) _ _ _); k_dflt (refine m_until (by assumption) (by k_asm) (by k_asm) ?N ?_; (case N => first | k_asm | exact News.sub (by k_asm) (fun q hq => LedR.mem_rest (by assumption) hq) | exact News.sub (News.tl (by k_asm)) (fun q hq => LedR.mem_rest (by assumption) hq) | exact News.sub (News.tl (News.tl (by k_asm))) (fun q hq => LedR.mem_rest (by assumption) hq) | exact News.tl (by k_asm) | exact News.tl (News.tl (by k_asm)) | exact News.tl (News.tl (News.tl (by k_asm))))))
  k_with "truthy str" => ((with_reducible show wpAny _ _ (truthy (Value.str (S [_]) _)) _ _ _); refine truthy_one ?_; intro k9)
  k_with "compareOp NotEq str str" => ((with_reducible show wpAny _ _ (compareOp CmpOp.NotEq (Value.str (S _) _) (Value.str (S _) _)) _ _ _); k_dflt (refine ne_no rfl ?_))
  k_with "ite" => ((first | (with_reducible show if ((_ : Int) == _) = true then _ else _) | (with_reducible show if ((_ : Int) != _) = true then _ else _)); k_dflt (first | refine ite_pos (by simp only [beq_iff_eq, bne_iff_ne, ne_eq]; lia) ?_ | refine ite_neg (by simp only [beq_iff_eq, bne_iff_ne, ne_eq]; lia) ?_))
  k_with "inplaceOp Add str str" => ((with_reducible show wpAny _ _ (inplaceOp Operator.Add (Value.str (S _) _) (Value.str (Str.ofString "") _)) _ _ _); k_dflt (refine iadd_lit [] (by decide +kernel) (by tb_start) ?_); intro _ _)
  k_with "call ref" => ((with_reducible show wpAny _ _ (call (Value.ref 128) [Value.ref xA, Value.str _ _]) _ _ _); (obtain ⟨nB, n8, hKB, hFA, hsub⟩ := led_swap hK hF); (with_reducible rename News _ _ _ _ => N9); (have N8 := News.sub N9 hsub); (clear N9 hK hF); k_dflt ((refine' Spec.useV (unget_spec (st := stA) hFA c _ a3 a5 kA) ?B ?F ?X ?N ?T ?hk ?hd ?hu ?_; (case B => k_asm); (case F => k_asm); (case X => k_asm); (case T => k_asm); (case hk => first | exact rfl | assumption); (case N => first | k_asm | exact News.tl (by k_asm) | exact News.tl (News.tl (by k_asm)) | exact News.tl (News.tl (News.tl (by k_asm)))); (case hd => ktr_room); (case hu => ktr_units); intro n' h' tk' hA9 hle' F' N'); (clear hFA); (unfold LedIs at hA9); (try dsimp only); (try k_fold)))
  k_with "call ref" => ((with_reducible show wpAny _ _ (call (Value.ref 128) [Value.ref xB, Value.str _ _]) _ _ _); (obtain ⟨nB2, n82, hKA, hFB, hsub2⟩ := led_swap hKB hA9); (with_reducible rename News _ _ _ _ => N9); (have N82 := News.sub N9 hsub2); (clear N9 hKB hA9); k_dflt ((refine' Spec.useV (unget_spec (st := stB) hFB c _ b3 b5 kB) ?B ?F ?X ?N ?T ?hk ?hd ?hu ?_; (case B => k_asm); (case F => k_asm); (case X => k_asm); (case T => k_asm); (case hk => first | exact rfl | assumption); (case N => first | k_asm | exact News.tl (by k_asm) | exact News.tl (News.tl (by k_asm)) | exact News.tl (News.tl (News.tl (by k_asm)))); (case hd => ktr_room); (case hu => ktr_units); intro n' h' tk' hF9 hle' F' N'); (clear hFB); (unfold LedIs at hF9); (try dsimp only); (try k_fold)))
  k_with "call ref" => ((with_reducible show wpAny _ _ (call (Value.ref 128) [Value.ref xA, Value.none]) _ _ _); (obtain ⟨nB, n8, hKB, hFA, hsub⟩ := led_swap hK hF); (with_reducible rename News _ _ _ _ => N9); (have N8 := News.sub N9 hsub); (clear N9 hK hF); k_dflt ((refine' Spec.useV (unget_none_spec (st := stA) hFA) ?B ?F ?X ?N ?T ?hk ?hd ?hu ?_; (case B => k_asm); (case F => k_asm); (case X => k_asm); (case T => k_asm); (case hk => first | exact rfl | assumption); (case N => first | k_asm | exact News.tl (by k_asm) | exact News.tl (News.tl (by k_asm)) | exact News.tl (News.tl (News.tl (by k_asm)))); (case hd => ktr_room); (case hu => ktr_units); intro n' h' tk' hA9 hle' F' N'); (clear hFA); (unfold LedIs at hA9); (try dsimp only); (try k_fold)))
  k_with "call ref" => ((with_reducible show wpAny _ _ (call (Value.ref 128) [Value.ref xB, Value.none]) _ _ _); (obtain ⟨nB2, n82, hKA, hFB, hsub2⟩ := led_swap hKB hA9); (with_reducible rename News _ _ _ _ => N9); (have N82 := News.sub N9 hsub2); (clear N9 hKB hA9); k_dflt ((refine' Spec.useV (unget_none_spec (st := stB) hFB) ?B ?F ?X ?N ?T ?hk ?hd ?hu ?_; (case B => k_asm); (case F => k_asm); (case X => k_asm); (case T => k_asm); (case hk => first | exact rfl | assumption); (case N => first | k_asm | exact News.tl (by k_asm) | exact News.tl (News.tl (by k_asm)) | exact News.tl (News.tl (News.tl (by k_asm)))); (case hd => ktr_room); (case hu => ktr_units); intro n' h' tk' hF9 hle' F' N'); (clear hFB); (unfold LedIs at hF9); (try dsimp only); (try k_fold)))
  cases hv with
  | none =>
    k_steps
    all_goals (
      rename Fr _ _ _ _ => F9
      rename News _ _ _ _ => N9
      exact hret _ _ _ stA stB p none _ _ (FrL5.of ⟨_, rfl⟩ .none rfl (fun z a0 a1 a2 a3 a4 a5 => (by repeat (first | with_reducible rfl | refine (if_neg (by assumption)).trans ?_ | rfl)))) h5 Fresh5.none hKA hF9 F9 N9)
  | @some c tc9 =>
    obtain ⟨p1, rfl, hp1, hcc, oA, oB⟩ := hfr c rfl
    obtain ⟨h51, kA, kB⟩ := h5.back oA oB hcc
    k_steps
    all_goals (
      rename Fr _ _ _ _ => F9
      rename News _ _ _ _ => N9
      exact hret _ _ _ (stA.unget c) (stB.unget c) p1 none _ _ (FrL5.of ⟨_, str_eq (take_back hp1)⟩ .none rfl (fun z a0 a1 a2 a3 a4 a5 => (by repeat (first | with_reducible rfl | refine (if_neg (by assumption)).trans ?_ | rfl)))) h51 Fresh5.none hKA hF9 F9 (by first | exact N9 | exact News.tl N9 | exact News.tl (News.tl N9)))
end
theorem tup_of {h₀ h : Heap} {L : Addr} {D : Nat} {ts : List Value} {news : List (Addr × Obj)} (N : News h₀ L h news) (hm : (D, tup ts) ∈ news) : IsTup h D ts.toArray := ⟨_, (N _ hm).1, rfl, _, rfl⟩
theorem sub_cons {p : Addr × Obj} {news nw : List (Addr × Obj)} (hm : p ∈ nw) (h : ∀ z ∈ news, z ∈ nw) : ∀ z ∈ p :: news, z ∈ nw := fun z hz => by
  rcases List.mem_cons.mp hz with rfl | hz
  · exact hm
  · exact h z hz
section
variable {w : World} {mean : ExcName → Option Value} {mg mb : Str → Option Value} {R : List Nat} {rest : List (Addr × Obj)} {ad : List Nat} {x : Nat} {ck : List Nat} {sz of : Int} {er : Nat} {pl pc : Int} {bf : Option Nat} {pla : Int} {news : List (Addr × Obj)}
theorem stops_at (_hL : LedR w R rest ad x ck sz of er pl pc bf pla news) : Spec w mean mg mb 143 [] 5 40 news (fun v nw => ∃ (D : Nat) (vs : List Value), v = .ref D ∧ (D, W.listOf vs.toArray 0) ∈ nw ∧ (∀ p ∈ news, p ∈ nw) ∧ vs.length = 6 ∧ ∀ i v, vs[i]? = some v → StopIs news nw v (SS5.getD i [])) := stops_spec news
theorem in_tup {D : Nat} {ts : List Value} {q : List Nat} (hQ : StrsAre ts (sg q)) : InIs w (.ref D) (fun c => decide (c ∈ q)) ((D, tup ts) :: rest) := by
  intro A E Q s h₀ L c t' news N hm hc hu h
  exact in_sg (tup_of N (hm _ (.head _))) hQ hu (h s.toks (Nat.le_refl _))
end
section
variable {w : World} {mean : ExcName → Option Value} {mg mb : Str → Option Value} {R R2 : List Nat} {r0 nK news : List (Addr × Obj)} {adA adB : List Nat} {xA xB : Nat} {stA stB : St} {k p : Nat} {Dg Ds : Addr} {q : Nat × Nat} {tq1 tq2 tq3 : Tok} {us : Option Value} {vt vs : Value}
set_option maxRecDepth 100000 in
set_option maxHeartbeats 4000000 in
theorem d0c (hK : LedIs w R r0 adA xA stA nK) (hF : LedIs w R2 nK adB xB stB news) (h5 : Two5 R R2 k stA stB p)
    (bd : Stmt) (tl : List Stmt) (sc : Scope) (hb : forB.drop 0 = bd :: tl) (hs : lawSc = sc) (n : Int) {t0 tr : Tok} {u1 u2 u3 : Option Value} {v : Value}
    (dp un : Nat) (gd : Option (List Code)) (a : Addr) (ccd : Value) (cl : List (Str × Addr)) (outer : List Env) (A₀ : Around) (base h₀ : Heap) (L : Addr) (s : Shared) (Q : Flow → Shared → Prop) (E : Value → Shared → Prop)
    (B : Below A₀ base outer h₀) (F : Fr h₀ L s.heap (fun y => if y = Str.ofString "n" then some (.int n t0) else if y = Str.ofString "run" then u1 else if y = Str.ofString "line" then u2 else if y = Str.ofString "column" then u3 else if y = Str.ofString "read" then some (.str (S ((norm R2).take p)) tr) else if y = Str.ofString "fresh" then some v else base5 xA xB Dg Ds k q tq1 tq2 tq3 us vt vs y))
    (X : (hd05.heap_39 w.params).In h₀) (N : News h₀ L s.heap news) (T : Top hd05.view_39 loose mean mg mb h₀) (hd : dp + 100 < recursionLimit) (hu : un + 800 < cLine) (hE : PassesOwn (model PySem.Challenge.pw_te0074_05 w) (ktrTop dp un gd (Str.ofString "law") sc L a ccd cl outer) (envOf (Str.ofString "law") sc L a ccd) E)
    (hw : (n.fdiv 12).fmod 4 ≠ 0) (hw3 : (n.fdiv 12).fmod 4 ≠ 3) (hret : ∀ h' tk' m' (stA' stB' : St) (p' : Nat) (fr' : Option Nat) nK' nw', FrL5 (base5 xA xB Dg Ds k q tq1 tq2 tq3 us vt vs) (norm R2) p' fr' m' → Two5 R R2 k stA' stB' p' → Fresh5 R2 stA' stB' p' fr' → LedIs w R r0 adA xA stA' nK' → LedIs w R2 nK' adB xB stB' nw' → Fr h₀ L h' m' → News h₀ L h' nw' → Q .next { s with heap := h', toks := tk' }) :
    wpAny (model PySem.Challenge.pw_te0074_05 w) (ktrTop dp un gd (Str.ofString "law") sc L a ccd cl outer) (exec bd (envOf (Str.ofString "law") sc L a ccd)) Q E s := by
  conv at hb => lhs; whnf
  conv at hs => lhs; whnf
  cases hb
  subst hs
  have hl2 := norm28 h5.rB
  obtain ⟨a1, a2, a3, a4, a5⟩ := h5.okA
  obtain ⟨b1, b2, b3, b4, b5⟩ := h5.okB
  obtain ⟨ix, hix, hix6⟩ : ∃ ix : Nat, (n.fdiv 48).fmod 6 = (ix : Int) ∧ ix < 6 := ⟨((n.fdiv 48).fmod 6).toNat, by
    have h1 := Int.fmod_nonneg_of_pos (n.fdiv 48) (show (0 : Int) < 6 by decide)
    have h2 := Int.fmod_lt_of_pos (n.fdiv 48) (show (0 : Int) < 6 by decide)
    lia⟩
  obtain ⟨qq, hq⟩ : ∃ qq, SS5.getD ix [] = qq := ⟨_, rfl⟩
  obtain ⟨bb, hbb⟩ : ∃ bb, ((n.fdiv 12).fmod 4 == 2) = bb := ⟨_, rfl⟩
  obtain ⟨nA, mB, l6, stA1, stB1, uA, hnA, uB, hmB, hl6, h51⟩ := h5.until (fun c => decide (c ∈ qq)) bb
  have hl28 : l6.length ≤ 28 := by
    have h1 := invG_le h51.iB
    exact Nat.le_trans (Nat.le_add_left _ _) (Nat.le_trans h1 hl2)
  have hix63 : (ix : Int) < 2 ^ 63 := by lia
  unfold LedIs at hK hF
  k_with_none
  k_with "tb" => (first | assumption | (apply le3; assumption; exact rfl) | lia | (simp only [List.length_append, List.length_cons, List.length_nil, List.length_take, List.length_drop, List.length_dropLast, crs_len, partOf_len] at *; lia) | ((with_reducible refine Nat.le_trans (crlf_len _) ?_); tb_start) | ((with_reducible refine Nat.le_trans (split_len _) ?_); tb_start) | ((with_reducible refine Nat.le_trans (norm_len _) ?_); tb_start))
  k_with "call builtin:str.count" => (refine count4 (by decide +kernel) (by first | assumption | lia) ?_)
  k_with "call builtin:str.rfind" => (refine rfind4 (by decide +kernel) (by first | assumption | lia) ?_)
  k_with "call builtin:str.replace" => ((try dsimp only at *); k_dflt (refine repl_crlf_S (by decide +kernel) (by decide +kernel) (by k_ne) (by k_ne) (by k_ne) (by tb_start) ?_); intro _ _ _)
  k_with "call builtin:str.replace" => ((try dsimp only at *); k_dflt (refine repl_cr_S (by decide +kernel) (by decide +kernel) (by k_ne) (by k_ne) (by k_ne) (by tb_start) ?_); intro _ _ _)
  k_with "call builtin:len" => ((with_reducible show wpAny _ _ (call (Value.builtin "len") [Value.str (S _) _]) _ _ _); refine len_S (by tb_start) ?_)
  k_with "call builtin:ord" => ((with_reducible show wpAny _ _ (call (Value.builtin "ord") [Value.str (S _) _]) _ _ _); refine ord_S ?_)
  k_with "binaryOp Add str str" => ((with_reducible show wpAny _ _ (binaryOp Operator.Add (Value.str (S _) _) (Value.str (S _) _)) _ _ _); refine add_S (by tb_start) ?_; intro _ _)
  k_with "inplaceOp Add str str" => ((with_reducible show wpAny _ _ (inplaceOp Operator.Add (Value.str (S _) _) (Value.str (S _) _)) _ _ _); refine iadd_S (by tb_start) ?_; intro _ _)
  k_with "truthy str" => ((with_reducible show wpAny _ _ (truthy (Value.str (S _) _)) _ _ _); refine truthy_S (by tb_start) ?_)
  k_with "compareOp Eq str str" => ((with_reducible show wpAny _ _ (compareOp CmpOp.Eq (Value.str (S _) _) (Value.str (S _) _)) _ _ _); refine eq_S ?_)
  k_with "compareOp NotEq str str" => ((with_reducible show wpAny _ _ (compareOp CmpOp.NotEq (Value.str (S _) _) (Value.str (S _) _)) _ _ _); refine ne_S ?_)
  k_with "subscriptTail Name Slice str ref" => (k_here; (with_reducible rename Fr _ _ _ _ => F'); (with_reducible rename News _ _ _ _ => N'); k_dflt (refine drop_S (s := ⟨_, _, _, _, _⟩) F' N' (by tb_start) ?_); intro _ _ _ _ _; (try k_sweep))
  k_with "subscriptTail Name Slice str ref" => (k_here; (with_reducible rename Fr _ _ _ _ => F'); (with_reducible rename News _ _ _ _ => N'); k_dflt (refine take_S (s := ⟨_, _, _, _, _⟩) F' N' (by tb_start) ?_); intro _ _ _ _ _; (try k_sweep))
  k_with "subscriptTail Name Slice str ref" => (k_here; (with_reducible rename Fr _ _ _ _ => F'); (with_reducible rename News _ _ _ _ => N'); k_dflt (refine mid_S (s := ⟨_, _, _, _, _⟩) F' N' (by tb_start) ?_); intro _ _ _ _ _; (try k_sweep))
  k_with "subscriptTail Name Slice str ref" => (k_here; (with_reducible rename Fr _ _ _ _ => F'); (with_reducible rename News _ _ _ _ => N'); k_dflt (refine part_S (s := ⟨_, _, _, _, _⟩) F' N' (by tb_start) ?_); intro _ _ _ _ _; (try k_sweep))
  k_with "subscriptTail Name Slice str ref" => (k_here; (with_reducible rename Fr _ _ _ _ => F'); (with_reducible rename News _ _ _ _ => N'); k_dflt (refine init_S (s := ⟨_, _, _, _, _⟩) F' N' (by tb_start) ?_); intro _ _ _ _ _; (try k_sweep))
  k_with "subscriptTail Name UnaryOp str int" => (k_here; (with_reducible show wpAny _ _ (subscriptTail _ _ (Value.str (S _) _) (Value.int _ _)) _ _ _); k_dflt (first | (refine last_S (by first | assumption | (intro hz; simp only [hz, List.length_nil] at *; lia)) (by tb_start) ?_) | (refine item_S (by first | assumption | lia | k_extra "my item") (by tb_start) ?_)))
  k_with "subscriptTail Name Name str int" => (k_here; (with_reducible show wpAny _ _ (subscriptTail _ _ (Value.str (S _) _) (Value.int _ _)) _ _ _); first | (with_reducible refine item_S (by k_dflt (first | assumption | lia | k_extra "my item")) (by k_dflt tb_start) ?_) | k_dflt (refine item_Si (by lia) (by first | lia | k_extra "my item") (by tb_start) ?_))
  k_with "subscriptTail Name Constant str int" => (k_here; (with_reducible show wpAny _ _ (subscriptTail _ _ (Value.str (S _) _) (Value.int _ _)) _ _ _); first | (with_reducible refine item_S (by k_dflt (first | assumption | lia | k_extra "my item")) (by k_dflt tb_start) ?_) | k_dflt (refine item_Si (by lia) (by first | lia | k_extra "my item") (by tb_start) ?_))
  k_with "subscriptTail Name BinOp str int" => (k_here; (with_reducible show wpAny _ _ (subscriptTail _ _ (Value.str (S _) _) (Value.int _ _)) _ _ _); first | (with_reducible refine item_S (by k_dflt (first | assumption | lia | k_extra "my item")) (by k_dflt tb_start) ?_) | k_dflt (refine item_Si (by lia) (by first | lia | k_extra "my item") (by tb_start) ?_))
  k_with "subscriptTail Attribute Name str int" => (k_here; (with_reducible show wpAny _ _ (subscriptTail _ _ (Value.str (S _) _) (Value.int _ _)) _ _ _); first | (with_reducible refine item_S (by k_dflt (first | assumption | lia | k_extra "my item")) (by k_dflt tb_start) ?_) | k_dflt (refine item_Si (by lia) (by first | lia | k_extra "my item") (by tb_start) ?_))
  k_with "subscriptTail Attribute Constant str int" => (k_here; (with_reducible show wpAny _ _ (subscriptTail _ _ (Value.str (S _) _) (Value.int _ _)) _ _ _); first | (with_reducible refine item_S (by k_dflt (first | assumption | lia | k_extra "my item")) (by k_dflt tb_start) ?_) | k_dflt (refine item_Si (by lia) (by first | lia | k_extra "my item") (by tb_start) ?_))
  k_with "subscriptTail Attribute Attribute str int" => (k_here; (with_reducible show wpAny _ _ (subscriptTail _ _ (Value.str (S _) _) (Value.int _ _)) _ _ _); first | (with_reducible refine item_S (by k_dflt (first | assumption | lia | k_extra "my item")) (by k_dflt tb_start) ?_) | k_dflt (refine item_Si (by lia) (by first | lia | k_extra "my item") (by tb_start) ?_))
  k_with "truthy ref" => (k_here; k_dflt (refine' truthy_meth ?N ?q ?_; (case N => k_asm); (case q => k_mem); k_whole))
  k_with "exec For Name Name cons nil" => (k_here; (with_reducible rename Fr _ _ _ _ => lF'); k_dflt (refine' For_invVF lF' ?k1 ?k2 ?_; (case k1 => exact rfl); (case k2 => exact rfl); k_whole))
  k_with "exec For Name Subscript cons nil" => (k_here; (with_reducible rename Fr _ _ _ _ => lF'); k_dflt (refine' For_invVF lF' ?k1 ?k2 ?_; (case k1 => exact rfl); (case k2 => exact rfl); k_whole))
  k_with "all" => (refine List.forall_mem_append.mpr ⟨?a, ?b⟩; (case a => k_all); (case b => k_all))
  k_with "rel" => (simp only [List.size_toArray]; rw [PySem.sizeLine_eq]; lia)
  k_with "call builtin:list.append" => (k_here; (with_reducible show wpAny _ _ (call (Value.builtin _) [Value.ref _, _]) _ _ _); k_dflt (refine' append_K ?k1 ?k2 ?k3 ?_ ?z; (case k1 => k_asm); (case k2 => k_asm); (case k3 => k_upd); (case z => tb_rel); k_whole); intro h' F' N'; (try simp only [List.push_toArray] at N'); (try k_sweep))
  k_with "enter" => (refine' code_def ?k1 ?k2 ?k3 ?k4 ?k5 ?kA ?kF ?kK ?k6 ?k7 ?k8 ?k9 ?kB ?_ ?c2 ?c3 ?c4 ?c5; (case kA => exact rfl); (case kF => exact rfl); (case kK => assumption); (case k1 => k_asm); (case k2 => k_asm); (case k3 => k_asm); (case k4 => k_asm); (case k5 => k_asm); (case k6 => k_is); (case k7 => k_is); (case k8 => ktr_room); (case k9 => first | exact BindsTo.of_eq rfl | exact binds_K (by k_in) rfl (by k_is) rfl rfl rfl); (case c5 => decide); (case kB => exact locs rfl); (case c2 => exact rfl); (case c3 => exact rfl); (case c4 => exact rfl); k_whole; intro g' L' h' FG' F' N' B' X' T'; (try dsimp only); (try k_lift B'); (try k_fold))
  k_with "JoinP" => (dsimp only [JoinP])
  k_with "subscriptTail" => (k_here; (with_reducible show wpAny _ _ (subscriptTail _ _ (Value.str (S _) _) (Value.int _ _)) _ _ _); first | (with_reducible refine item_S (by k_dflt (first | assumption | lia | k_extra "my item")) (by k_dflt tb_start) ?_) | k_dflt (refine item_Si (by lia) (by first | lia | k_extra "my item") (by tb_start) ?_))
  k_with "compareOp Eq str str" => ((with_reducible show wpAny _ _ (compareOp CmpOp.Eq (Value.str (S _) _) (Value.str (Str.ofString _) _)) _ _ _); k_dflt (first | refine eq_lit [13] (by decide +kernel) ?_ | refine eq_lit [10] (by decide +kernel) ?_))
  k_with "compareOp NotEq str str" => ((with_reducible show wpAny _ _ (compareOp CmpOp.NotEq (Value.str (S _) _) (Value.str (Str.ofString _) _)) _ _ _); k_dflt (first | refine ne_lit [13] (by decide +kernel) ?_ | refine ne_lit [10] (by decide +kernel) ?_))
  k_with "inplaceOp Add str str" => ((with_reducible show wpAny _ _ (inplaceOp Operator.Add (Value.str (S _) _) (Value.str (Str.ofString _) _)) _ _ _); k_dflt (refine iadd_lit [10] (by decide +kernel) (by tb_start) ?_); intro _ _)
  k_with "room" => (k_dflt ((first | apply room4 | apply room3 | apply room2 | apply room1 | apply room0 | apply roomz); assumption; exact rfl))
  k_with "getAttr ref" => ((with_reducible show wpAny _ _ (getAttr (Value.ref _) (Str.ofString "errors") _) _ _ _); k_dflt (refine g_errors (by assumption) (by k_asm) (by k_asm) ?N ?_; (case N => first | k_asm | exact News.sub (by k_asm) (fun q hq => LedR.mem_rest (by assumption) hq) | exact News.sub (News.tl (by k_asm)) (fun q hq => LedR.mem_rest (by assumption) hq) | exact News.sub (News.tl (News.tl (by k_asm))) (fun q hq => LedR.mem_rest (by assumption) hq) | exact News.tl (by k_asm) | exact News.tl (News.tl (by k_asm)) | exact News.tl (News.tl (News.tl (by k_asm))))); intro _ hE1)
  k_with "getMethod ref" => ((with_reducible show wpAny _ _ (getMethod (Value.ref _) (Str.ofString "position") _) _ _ _); k_dflt (refine m_pos (by assumption) (by k_asm) (by k_asm) ?N ?_; (case N => first | k_asm | exact News.sub (by k_asm) (fun q hq => LedR.mem_rest (by assumption) hq) | exact News.sub (News.tl (by k_asm)) (fun q hq => LedR.mem_rest (by assumption) hq) | exact News.sub (News.tl (News.tl (by k_asm))) (fun q hq => LedR.mem_rest (by assumption) hq) | exact News.tl (by k_asm) | exact News.tl (News.tl (by k_asm)) | exact News.tl (News.tl (News.tl (by k_asm))))))
  k_with "getMethod ref" => ((with_reducible show wpAny _ _ (getMethod (Value.ref _) (Str.ofString "char") _) _ _ _); k_dflt (refine m_char (by assumption) (by k_asm) (by k_asm) ?N ?_; (case N => first | k_asm | exact News.sub (by k_asm) (fun q hq => LedR.mem_rest (by assumption) hq) | exact News.sub (News.tl (by k_asm)) (fun q hq => LedR.mem_rest (by assumption) hq) | exact News.sub (News.tl (News.tl (by k_asm))) (fun q hq => LedR.mem_rest (by assumption) hq) | exact News.tl (by k_asm) | exact News.tl (News.tl (by k_asm)) | exact News.tl (News.tl (News.tl (by k_asm))))))
  k_with "getMethod ref" => ((with_reducible show wpAny _ _ (getMethod (Value.ref _) (Str.ofString "readChunk") _) _ _ _); k_dflt (refine m_chunk (by assumption) (by k_asm) (by k_asm) ?N ?_; (case N => first | k_asm | exact News.sub (by k_asm) (fun q hq => LedR.mem_rest (by assumption) hq) | exact News.sub (News.tl (by k_asm)) (fun q hq => LedR.mem_rest (by assumption) hq) | exact News.sub (News.tl (News.tl (by k_asm))) (fun q hq => LedR.mem_rest (by assumption) hq) | exact News.tl (by k_asm) | exact News.tl (News.tl (by k_asm)) | exact News.tl (News.tl (News.tl (by k_asm))))))
  k_with "getMethod ref" => ((with_reducible show wpAny _ _ (getMethod (Value.ref _) (Str.ofString "unget") _) _ _ _); k_dflt (refine m_unget (by assumption) (by k_asm) (by k_asm) ?N ?_; (case N => first | k_asm | exact News.sub (by k_asm) (fun q hq => LedR.mem_rest (by assumption) hq) | exact News.sub (News.tl (by k_asm)) (fun q hq => LedR.mem_rest (by assumption) hq) | exact News.sub (News.tl (News.tl (by k_asm))) (fun q hq => LedR.mem_rest (by assumption) hq) | exact News.tl (by k_asm) | exact News.tl (News.tl (by k_asm)) | exact News.tl (News.tl (News.tl (by k_asm))))))
  k_with "getMethod ref" => ((with_reducible show wpAny _ _ (getMethod (Value.ref _) (Str.ofString "charsUntil") _) _ _ _); k_dflt (refine m_until (by assumption) (by k_asm) (by k_asm) ?N ?_; (case N => first | k_asm | exact News.sub (by k_asm) (fun q hq => LedR.mem_rest (by assumption) hq) | exact News.sub (News.tl (by k_asm)) (fun q hq => LedR.mem_rest (by assumption) hq) | exact News.sub (News.tl (News.tl (by k_asm))) (fun q hq => LedR.mem_rest (by assumption) hq) | exact News.tl (by k_asm) | exact News.tl (News.tl (by k_asm)) | exact News.tl (News.tl (News.tl (by k_asm))))))
  k_with "truthy str" => ((with_reducible show wpAny _ _ (truthy (Value.str (S [_]) _)) _ _ _); refine truthy_one ?_; intro k9)
  k_with "compareOp NotEq str str" => ((with_reducible show wpAny _ _ (compareOp CmpOp.NotEq (Value.str (S _) _) (Value.str (S _) _)) _ _ _); k_dflt (refine ne_no rfl ?_))
  k_with "ite" => ((first | (with_reducible show if ((_ : Int) == _) = true then _ else _) | (with_reducible show if ((_ : Int) != _) = true then _ else _)); k_dflt (first | refine ite_pos (by simp only [beq_iff_eq, bne_iff_ne, ne_eq]; lia) ?_ | refine ite_neg (by simp only [beq_iff_eq, bne_iff_ne, ne_eq]; lia) ?_))
  k_with "inplaceOp Add str str" => ((with_reducible show wpAny _ _ (inplaceOp Operator.Add (Value.str (S _) _) (Value.str (Str.ofString "") _)) _ _ _); k_dflt (refine iadd_lit [] (by decide +kernel) (by tb_start) ?_); intro _ _)
  k_with "call ref" => ((with_reducible show wpAny _ _ (call (Value.ref 143) _) _ _ _); k_dflt ((refine' Spec.useStops (stops_at hF) ?B ?F ?X ?N ?T ?hk ?hd ?hu ?_); (case B => k_asm); (case F => k_asm); (case X => k_asm); (case T => k_asm); (case hk => first | exact rfl | assumption); (case N => first | k_asm | exact News.tl (by k_asm) | exact News.tl (News.tl (by k_asm)) | exact News.tl (News.tl (News.tl (by k_asm)))); (case hd => ktr_room); (case hu => ktr_units); intro D7 vs7 n' h' tk' hm7 hsub7 hl7 hat7 hle' F' N'; (try dsimp only); (try k_fold)))
  k_with "call ref" => ((with_reducible show wpAny _ _ (call (Value.ref 143) _) _ _ _); k_dflt ((refine' Spec.useStops (stops_at hF9) ?B ?F ?X ?N ?T ?hk ?hd ?hu ?_); (case B => k_asm); (case F => k_asm); (case X => k_asm); (case T => k_asm); (case hk => first | exact rfl | assumption); (case N => first | k_asm | exact News.tl (by k_asm) | exact News.tl (News.tl (by k_asm)) | exact News.tl (News.tl (News.tl (by k_asm)))); (case hd => ktr_room); (case hu => ktr_units); intro D7 vs7 n' h' tk' hm7 hsub7 hl7 hat7 hle' F' N'; (try dsimp only); (try k_fold)))
  k_with "subscriptTail" => ((with_reducible show wpAny _ _ (subscriptTail _ _ (Value.ref D7) (Value.int _ _)) _ _ _); (obtain ⟨v7, hv7⟩ : ∃ v, vs7[ix]? = some v := ⟨_, List.getElem?_eq_getElem (by rw [hl7]; exact hix6)⟩); (obtain ⟨T7, ts7, hT7, hm8, hlt7, hQ7⟩ := hat7 ix v7 hv7); subst hT7; (rw [hq] at hQ7); (with_reducible rename News _ _ _ _ => N9); (rw [hix]); k_dflt (refine item_listL (News.isList N9 hm7) (Int.natCast_nonneg _) hix63 (by rw [Int.toNat_natCast]; exact hv7) ?_); (have N8 := News.sub N9 (sub_cons hm8 hsub7)); (clear N9 hm7 hsub7 hl7 hat7 hv7 hm8))
  k_with "call ref" => ((with_reducible show wpAny _ _ (call (Value.ref 121) _) _ _ _); k_dflt ((rw [hbb]); (refine' Spec.useS (until_new (st := stB) hF hlt7 (in_tup hQ7) _ (.inl rfl) uB hmB) ?B ?F ?X ?N ?T ?hk ?hd ?hu ?_); (case B => k_asm); (case F => k_asm); (case X => k_asm); (case T => k_asm); (case hk => first | exact rfl | assumption); (case N => first | k_asm | exact News.tl (by k_asm) | exact News.tl (News.tl (by k_asm)) | exact News.tl (News.tl (News.tl (by k_asm)))); (case hd => ktr_room); (case hu => ktr_units); intro tl6 n' h' tk' hF9 hle' F' N'; (clear hF hlt7 hQ7); (unfold LedIs at hF9); (try dsimp only); (try k_fold)))
  k_with "call ref" => ((with_reducible show wpAny _ _ (call (Value.ref 121) _) _ _ _); (obtain ⟨nB, n8, hKB, hFA, hsub⟩ := led_swap hK hF9); (with_reducible rename News _ _ _ _ => N9); k_dflt (have N8 := News.sub N9 (sub_cons (.head _) (fun z hz => .tail _ (hsub z hz)))); (clear N9 hK hF9); k_dflt ((rw [hbb]); (refine' Spec.useS (until_new (st := stA) hFA (fun z hz => hlt7 z (hsub z hz)) (in_tup hQ7) _ (.inl rfl) uA hnA) ?B ?F ?X ?N ?T ?hk ?hd ?hu ?_); (case B => k_asm); (case F => k_asm); (case X => k_asm); (case T => k_asm); (case hk => first | exact rfl | assumption); (case N => first | k_asm | exact News.tl (by k_asm) | exact News.tl (News.tl (by k_asm)) | exact News.tl (News.tl (News.tl (by k_asm)))); (case hd => ktr_room); (case hu => ktr_units); intro tl7 n' h' tk' hA9 hle' F' N'; (clear hFA hlt7 hQ7); (unfold LedIs at hA9); (try dsimp only); (try k_fold)))
  k_steps
  all_goals (
    rename Fr _ _ _ _ => F9
    rename News _ _ _ _ => N9
    obtain ⟨nF, n8, hK8, hF8, hsub⟩ := led_swap hKB hA9
    exact hret _ _ _ stA1 stB1 (p + l6.length) none _ _ (FrL5.of ⟨_, str_eq (take_run hl6)⟩ .none rfl (fun z a0 a1 a2 a3 a4 a5 => (by repeat (first | with_reducible rfl | refine (if_neg (by assumption)).trans ?_ | rfl)))) h51 Fresh5.none hK8 hF8 F9 (News.sub N9 hsub))
end
theorem sh_a {q P : Nat × Nat} (h : 1 ≤ P.1) : (((sh5 q P).1 : Nat) : Int) = (q.1 : Int) + (P.1 : Int) - 1 := by
  show ((q.1 + P.1 - 1 : Nat) : Int) = _
  lia
theorem sh_b {q P : Nat × Nat} (h : P.1 = 1) : (((sh5 q P).2 : Nat) : Int) = (P.2 : Int) + (q.2 : Int) := by
  unfold sh5
  rw [if_pos h]
  rfl
theorem sh_c {q P : Nat × Nat} (h : ¬ P.1 = 1) : (((sh5 q P).2 : Nat) : Int) = (P.2 : Int) := by
  unfold sh5
  rw [if_neg h]
theorem led_end2 {w : World} {RA RB : List Nat} {r0 nK news own : List (Addr × Obj)} {adA adB : List Nat} {xA xB : Nat} {ckA ckB : List Nat} {szA ofA szB ofB : Int} {erA erB : Nat} {plA pcA plB pcB : Int} {bfA bfB : Option Nat} {paA paB : Int}
    {h₀ h' : Heap} {L : Addr} {m' : Str → Option Value} {J : (Str → Option Value) → List (Addr × Obj) → Prop} {adr : List Addr} {s₁ : Shared} {tk : Nat} (F : Fr h₀ L h' m') (N : News h₀ L h' news)
    (hK : LedR w RA (r0 ++ own) adA xA ckA szA ofA erA plA pcA bfA paA nK) (hF : LedR w RB nK adB xB ckB szB ofB erB plB pcB bfB paB news) (ha : adB ++ (adA ++ r0.map (·.1)) = adr)
    (hj : ∀ nk nx, LedR w RA r0 adA xA ckA szA ofA erA plA pcA bfA paA nk → LedR w RB nk adB xB ckB szB ofB erB plB pcB bfB paB nx → J m' nx) : InvEndN h₀ L J own adr s₁ { s₁ with heap := h', toks := tk } := by
  obtain ⟨nk, h1, rfl⟩ := hK.part
  obtain ⟨nx, h2, rfl⟩ := hF.part
  refine InvEndN.intro F N (hj nk nx h1 h2) ?_ (fun p hp => List.mem_append.mpr (.inl hp)) (fun p hp => List.mem_append.mpr (.inr hp))
  rw [h2.addr, h1.addr]
  exact ha
section
variable {w : World} {mean : ExcName → Option Value} {mg mb : Str → Option Value} {R R2 : List Nat} {r0 nK news : List (Addr × Obj)} {adA adB : List Nat} {xA xB : Nat} {stA stB : St} {k p : Nat} {Dg Ds : Addr} {q : Nat × Nat} {tq1 tq2 tq3 : Tok} {us : Option Value} {vt vs : Value}
set_option maxRecDepth 100000 in
set_option maxHeartbeats 4000000 in
theorem d12 (hK : LedIs w R r0 adA xA stA nK) (hF : LedIs w R2 nK adB xB stB news) (h5 : Two5 R R2 k stA stB p)
    (bd : List Stmt) (sc : Scope) (hb : forB.drop 1 = bd) (hs : lawSc = sc) {tr : Tok} {u0 u1 u2 u3 : Option Value} {v : Value} {fr : Option Nat} (hv : BufIs v fr) (hq : q = ((norm R).take k).foldl adv (1, 0))
    (dp un : Nat) (gd : Option (List Code)) (a : Addr) (ccd : Value) (cl : List (Str × Addr)) (outer : List Env) (A₀ : Around) (base h₀ : Heap) (L : Addr) (s : Shared) (Q : Flow → Shared → Prop) (E : Value → Shared → Prop)
    (B : Below A₀ base outer h₀) (F : Fr h₀ L s.heap (fun y => if y = Str.ofString "n" then u0 else if y = Str.ofString "run" then u1 else if y = Str.ofString "line" then u2 else if y = Str.ofString "column" then u3 else if y = Str.ofString "read" then some (.str (S ((norm R2).take p)) tr) else if y = Str.ofString "fresh" then some v else base5 xA xB Dg Ds k q tq1 tq2 tq3 us vt vs y))
    (X : (hd05.heap_39 w.params).In h₀) (N : News h₀ L s.heap news) (T : Top hd05.view_39 loose mean mg mb h₀) (hd : dp + 100 < recursionLimit) (hu : un + 800 < cLine) (hE : PassesOwn (model PySem.Challenge.pw_te0074_05 w) (ktrTop dp un gd (Str.ofString "law") sc L a ccd cl outer) (envOf (Str.ofString "law") sc L a ccd) E)
    (hret : ∀ h' tk' m' nK' nw', FrL5 (base5 xA xB Dg Ds k q tq1 tq2 tq3 us vt vs) (norm R2) p fr m' → LedIs w R r0 adA xA stA nK' → LedIs w R2 nK' adB xB stB nw' → Fr h₀ L h' m' → News h₀ L h' nw' → Q .next { s with heap := h', toks := tk' }) :
    wpAny (model PySem.Challenge.pw_te0074_05 w) (ktrTop dp un gd (Str.ofString "law") sc L a ccd cl outer) (execs bd (envOf (Str.ofString "law") sc L a ccd)) Q E s := by
  conv at hb => lhs; whnf
  conv at hs => lhs; whnf
  subst hb
  subst hs
  have hl2 := norm28 h5.rB
  obtain ⟨a1, a2, a3, a4, a5⟩ := h5.okA
  obtain ⟨b1, b2, b3, b4, b5⟩ := h5.okB
  obtain ⟨hp1, hp2⟩ := h5.pos
  have eB := (invG_spot h5.iB).symm
  have eA := (invG_spot h5.iA).symm
  rw [hp1, ← hq] at eA
  generalize ((norm R2).take p).foldl adv (1, 0) = P at eA eB hp2
  unfold LedIs at hK hF
  k_with_none
  k_with "tb" => (first | assumption | (apply le3; assumption; exact rfl) | lia | (simp only [List.length_append, List.length_cons, List.length_nil, List.length_take, List.length_drop, List.length_dropLast, crs_len, partOf_len] at *; lia) | ((with_reducible refine Nat.le_trans (crlf_len _) ?_); tb_start) | ((with_reducible refine Nat.le_trans (split_len _) ?_); tb_start) | ((with_reducible refine Nat.le_trans (norm_len _) ?_); tb_start))
  k_with "call builtin:str.count" => (refine count4 (by decide +kernel) (by first | assumption | lia) ?_)
  k_with "call builtin:str.rfind" => (refine rfind4 (by decide +kernel) (by first | assumption | lia) ?_)
  k_with "call builtin:str.replace" => ((try dsimp only at *); k_dflt (refine repl_crlf_S (by decide +kernel) (by decide +kernel) (by k_ne) (by k_ne) (by k_ne) (by tb_start) ?_); intro _ _ _)
  k_with "call builtin:str.replace" => ((try dsimp only at *); k_dflt (refine repl_cr_S (by decide +kernel) (by decide +kernel) (by k_ne) (by k_ne) (by k_ne) (by tb_start) ?_); intro _ _ _)
  k_with "call builtin:len" => ((with_reducible show wpAny _ _ (call (Value.builtin "len") [Value.str (S _) _]) _ _ _); refine len_S (by tb_start) ?_)
  k_with "call builtin:ord" => ((with_reducible show wpAny _ _ (call (Value.builtin "ord") [Value.str (S _) _]) _ _ _); refine ord_S ?_)
  k_with "binaryOp Add str str" => ((with_reducible show wpAny _ _ (binaryOp Operator.Add (Value.str (S _) _) (Value.str (S _) _)) _ _ _); refine add_S (by tb_start) ?_; intro _ _)
  k_with "inplaceOp Add str str" => ((with_reducible show wpAny _ _ (inplaceOp Operator.Add (Value.str (S _) _) (Value.str (S _) _)) _ _ _); refine iadd_S (by tb_start) ?_; intro _ _)
  k_with "truthy str" => ((with_reducible show wpAny _ _ (truthy (Value.str (S _) _)) _ _ _); refine truthy_S (by tb_start) ?_)
  k_with "compareOp Eq str str" => ((with_reducible show wpAny _ _ (compareOp CmpOp.Eq (Value.str (S _) _) (Value.str (S _) _)) _ _ _); refine eq_S ?_)
  k_with "compareOp NotEq str str" => ((with_reducible show wpAny _ _ (compareOp CmpOp.NotEq (Value.str (S _) _) (Value.str (S _) _)) _ _ _); refine ne_S ?_)
  k_with "subscriptTail Name Slice str ref" => (k_here; (with_reducible rename Fr _ _ _ _ => F'); (with_reducible rename News _ _ _ _ => N'); k_dflt (refine drop_S (s := ⟨_, _, _, _, _⟩) F' N' (by tb_start) ?_); intro _ _ _ _ _; (try k_sweep))
  k_with "subscriptTail Name Slice str ref" => (k_here; (with_reducible rename Fr _ _ _ _ => F'); (with_reducible rename News _ _ _ _ => N'); k_dflt (refine take_S (s := ⟨_, _, _, _, _⟩) F' N' (by tb_start) ?_); intro _ _ _ _ _; (try k_sweep))
  k_with "subscriptTail Name Slice str ref" => (k_here; (with_reducible rename Fr _ _ _ _ => F'); (with_reducible rename News _ _ _ _ => N'); k_dflt (refine mid_S (s := ⟨_, _, _, _, _⟩) F' N' (by tb_start) ?_); intro _ _ _ _ _; (try k_sweep))
  k_with "subscriptTail Name Slice str ref" => (k_here; (with_reducible rename Fr _ _ _ _ => F'); (with_reducible rename News _ _ _ _ => N'); k_dflt (refine part_S (s := ⟨_, _, _, _, _⟩) F' N' (by tb_start) ?_); intro _ _ _ _ _; (try k_sweep))
  k_with "subscriptTail Name Slice str ref" => (k_here; (with_reducible rename Fr _ _ _ _ => F'); (with_reducible rename News _ _ _ _ => N'); k_dflt (refine init_S (s := ⟨_, _, _, _, _⟩) F' N' (by tb_start) ?_); intro _ _ _ _ _; (try k_sweep))
  k_with "subscriptTail Name UnaryOp str int" => (k_here; (with_reducible show wpAny _ _ (subscriptTail _ _ (Value.str (S _) _) (Value.int _ _)) _ _ _); k_dflt (first | (refine last_S (by first | assumption | (intro hz; simp only [hz, List.length_nil] at *; lia)) (by tb_start) ?_) | (refine item_S (by first | assumption | lia | k_extra "my item") (by tb_start) ?_)))
  k_with "subscriptTail Name Name str int" => (k_here; (with_reducible show wpAny _ _ (subscriptTail _ _ (Value.str (S _) _) (Value.int _ _)) _ _ _); first | (with_reducible refine item_S (by k_dflt (first | assumption | lia | k_extra "my item")) (by k_dflt tb_start) ?_) | k_dflt (refine item_Si (by lia) (by first | lia | k_extra "my item") (by tb_start) ?_))
  k_with "subscriptTail Name Constant str int" => (k_here; (with_reducible show wpAny _ _ (subscriptTail _ _ (Value.str (S _) _) (Value.int _ _)) _ _ _); first | (with_reducible refine item_S (by k_dflt (first | assumption | lia | k_extra "my item")) (by k_dflt tb_start) ?_) | k_dflt (refine item_Si (by lia) (by first | lia | k_extra "my item") (by tb_start) ?_))
  k_with "subscriptTail Name BinOp str int" => (k_here; (with_reducible show wpAny _ _ (subscriptTail _ _ (Value.str (S _) _) (Value.int _ _)) _ _ _); first | (with_reducible refine item_S (by k_dflt (first | assumption | lia | k_extra "my item")) (by k_dflt tb_start) ?_) | k_dflt (refine item_Si (by lia) (by first | lia | k_extra "my item") (by tb_start) ?_))
  k_with "subscriptTail Attribute Name str int" => (k_here; (with_reducible show wpAny _ _ (subscriptTail _ _ (Value.str (S _) _) (Value.int _ _)) _ _ _); first | (with_reducible refine item_S (by k_dflt (first | assumption | lia | k_extra "my item")) (by k_dflt tb_start) ?_) | k_dflt (refine item_Si (by lia) (by first | lia | k_extra "my item") (by tb_start) ?_))
  k_with "subscriptTail Attribute Constant str int" => (k_here; (with_reducible show wpAny _ _ (subscriptTail _ _ (Value.str (S _) _) (Value.int _ _)) _ _ _); first | (with_reducible refine item_S (by k_dflt (first | assumption | lia | k_extra "my item")) (by k_dflt tb_start) ?_) | k_dflt (refine item_Si (by lia) (by first | lia | k_extra "my item") (by tb_start) ?_))
  k_with "subscriptTail Attribute Attribute str int" => (k_here; (with_reducible show wpAny _ _ (subscriptTail _ _ (Value.str (S _) _) (Value.int _ _)) _ _ _); first | (with_reducible refine item_S (by k_dflt (first | assumption | lia | k_extra "my item")) (by k_dflt tb_start) ?_) | k_dflt (refine item_Si (by lia) (by first | lia | k_extra "my item") (by tb_start) ?_))
  k_with "truthy ref" => (k_here; k_dflt (refine' truthy_meth ?N ?q ?_; (case N => k_asm); (case q => k_mem); k_whole))
  k_with "exec For Name Name cons nil" => (k_here; (with_reducible rename Fr _ _ _ _ => lF'); k_dflt (refine' For_invVF lF' ?k1 ?k2 ?_; (case k1 => exact rfl); (case k2 => exact rfl); k_whole))
  k_with "exec For Name Subscript cons nil" => (k_here; (with_reducible rename Fr _ _ _ _ => lF'); k_dflt (refine' For_invVF lF' ?k1 ?k2 ?_; (case k1 => exact rfl); (case k2 => exact rfl); k_whole))
  k_with "all" => (refine List.forall_mem_append.mpr ⟨?a, ?b⟩; (case a => k_all); (case b => k_all))
  k_with "rel" => (simp only [List.size_toArray]; rw [PySem.sizeLine_eq]; lia)
  k_with "call builtin:list.append" => (k_here; (with_reducible show wpAny _ _ (call (Value.builtin _) [Value.ref _, _]) _ _ _); k_dflt (refine' append_K ?k1 ?k2 ?k3 ?_ ?z; (case k1 => k_asm); (case k2 => k_asm); (case k3 => k_upd); (case z => tb_rel); k_whole); intro h' F' N'; (try simp only [List.push_toArray] at N'); (try k_sweep))
  k_with "enter" => (refine' code_def ?k1 ?k2 ?k3 ?k4 ?k5 ?kA ?kF ?kK ?k6 ?k7 ?k8 ?k9 ?kB ?_ ?c2 ?c3 ?c4 ?c5; (case kA => exact rfl); (case kF => exact rfl); (case kK => assumption); (case k1 => k_asm); (case k2 => k_asm); (case k3 => k_asm); (case k4 => k_asm); (case k5 => k_asm); (case k6 => k_is); (case k7 => k_is); (case k8 => ktr_room); (case k9 => first | exact BindsTo.of_eq rfl | exact binds_K (by k_in) rfl (by k_is) rfl rfl rfl); (case c5 => decide); (case kB => exact locs rfl); (case c2 => exact rfl); (case c3 => exact rfl); (case c4 => exact rfl); k_whole; intro g' L' h' FG' F' N' B' X' T'; (try dsimp only); (try k_lift B'); (try k_fold))
  k_with "JoinP" => (dsimp only [JoinP])
  k_with "subscriptTail" => (k_here; (with_reducible show wpAny _ _ (subscriptTail _ _ (Value.str (S _) _) (Value.int _ _)) _ _ _); first | (with_reducible refine item_S (by k_dflt (first | assumption | lia | k_extra "my item")) (by k_dflt tb_start) ?_) | k_dflt (refine item_Si (by lia) (by first | lia | k_extra "my item") (by tb_start) ?_))
  k_with "compareOp Eq str str" => ((with_reducible show wpAny _ _ (compareOp CmpOp.Eq (Value.str (S _) _) (Value.str (Str.ofString _) _)) _ _ _); k_dflt (first | refine eq_lit [13] (by decide +kernel) ?_ | refine eq_lit [10] (by decide +kernel) ?_))
  k_with "compareOp NotEq str str" => ((with_reducible show wpAny _ _ (compareOp CmpOp.NotEq (Value.str (S _) _) (Value.str (Str.ofString _) _)) _ _ _); k_dflt (first | refine ne_lit [13] (by decide +kernel) ?_ | refine ne_lit [10] (by decide +kernel) ?_))
  k_with "inplaceOp Add str str" => ((with_reducible show wpAny _ _ (inplaceOp Operator.Add (Value.str (S _) _) (Value.str (Str.ofString _) _)) _ _ _); k_dflt (refine iadd_lit [10] (by decide +kernel) (by tb_start) ?_); intro _ _)
  k_with "room" => (k_dflt ((first | apply room4 | apply room3 | apply room2 | apply room1 | apply room0 | apply roomz); assumption; exact rfl))
  k_with "getAttr ref" => ((with_reducible show wpAny _ _ (getAttr (Value.ref _) (Str.ofString "errors") _) _ _ _); k_dflt (refine g_errors (by assumption) (by k_asm) (by k_asm) ?N ?_; (case N => first | k_asm | exact News.sub (by k_asm) (fun q hq => LedR.mem_rest (by assumption) hq) | exact News.sub (News.tl (by k_asm)) (fun q hq => LedR.mem_rest (by assumption) hq) | exact News.sub (News.tl (News.tl (by k_asm))) (fun q hq => LedR.mem_rest (by assumption) hq) | exact News.tl (by k_asm) | exact News.tl (News.tl (by k_asm)) | exact News.tl (News.tl (News.tl (by k_asm))))); intro _ hE1)
  k_with "getMethod ref" => ((with_reducible show wpAny _ _ (getMethod (Value.ref _) (Str.ofString "position") _) _ _ _); k_dflt (refine m_pos (by assumption) (by k_asm) (by k_asm) ?N ?_; (case N => first | k_asm | exact News.sub (by k_asm) (fun q hq => LedR.mem_rest (by assumption) hq) | exact News.sub (News.tl (by k_asm)) (fun q hq => LedR.mem_rest (by assumption) hq) | exact News.sub (News.tl (News.tl (by k_asm))) (fun q hq => LedR.mem_rest (by assumption) hq) | exact News.tl (by k_asm) | exact News.tl (News.tl (by k_asm)) | exact News.tl (News.tl (News.tl (by k_asm))))))
  k_with "getMethod ref" => ((with_reducible show wpAny _ _ (getMethod (Value.ref _) (Str.ofString "char") _) _ _ _); k_dflt (refine m_char (by assumption) (by k_asm) (by k_asm) ?N ?_; (case N => first | k_asm | exact News.sub (by k_asm) (fun q hq => LedR.mem_rest (by assumption) hq) | exact News.sub (News.tl (by k_asm)) (fun q hq => LedR.mem_rest (by assumption) hq) | exact News.sub (News.tl (News.tl (by k_asm))) (fun q hq => LedR.mem_rest (by assumption) hq) | exact News.tl (by k_asm) | exact News.tl (News.tl (by k_asm)) | exact News.tl (News.tl (News.tl (by k_asm))))))
  k_with "getMethod ref" => ((with_reducible show wpAny _ _ (getMethod (Value.ref _) (Str.ofString "readChunk") _) _ _ _); k_dflt (refine m_chunk (by assumption) (by k_asm) (by k_asm) ?N ?_; (case N => first | k_asm | exact News.sub (by k_asm) (fun q hq => LedR.mem_rest (by assumption) hq) | exact News.sub (News.tl (by k_asm)) (fun q hq => LedR.mem_rest (by assumption) hq) | exact News.sub (News.tl (News.tl (by k_asm))) (fun q hq => LedR.mem_rest (by assumption) hq) | exact News.tl (by k_asm) | exact News.tl (News.tl (by k_asm)) | exact News.tl (News.tl (News.tl (by k_asm))))))
  k_with "getMethod ref" => ((with_reducible show wpAny _ _ (getMethod (Value.ref _) (Str.ofString "unget") _) _ _ _); k_dflt (refine m_unget (by assumption) (by k_asm) (by k_asm) ?N ?_; (case N => first | k_asm | exact News.sub (by k_asm) (fun q hq => LedR.mem_rest (by assumption) hq) | exact News.sub (News.tl (by k_asm)) (fun q hq => LedR.mem_rest (by assumption) hq) | exact News.sub (News.tl (News.tl (by k_asm))) (fun q hq => LedR.mem_rest (by assumption) hq) | exact News.tl (by k_asm) | exact News.tl (News.tl (by k_asm)) | exact News.tl (News.tl (News.tl (by k_asm))))))
  k_with "getMethod ref" => ((with_reducible show wpAny _ _ (getMethod (Value.ref _) (Str.ofString "charsUntil") _) _ _ _); k_dflt (refine m_until (by assumption) (by k_asm) (by k_asm) ?N ?_; (case N => first | k_asm | exact News.sub (by k_asm) (fun q hq => LedR.mem_rest (by assumption) hq) | exact News.sub (News.tl (by k_asm)) (fun q hq => LedR.mem_rest (by assumption) hq) | exact News.sub (News.tl (News.tl (by k_asm))) (fun q hq => LedR.mem_rest (by assumption) hq) | exact News.tl (by k_asm) | exact News.tl (News.tl (by k_asm)) | exact News.tl (News.tl (News.tl (by k_asm))))))
  k_with "ite" => ((first | (with_reducible show if ((_ : Int) == _) = true then _ else _) | (with_reducible show if ((_ : Int) != _) = true then _ else _)); k_dflt (first | refine ite_pos (by simp only [beq_iff_eq, bne_iff_ne, ne_eq]; lia) ?_ | refine ite_neg (by simp only [beq_iff_eq, bne_iff_ne, ne_eq]; lia) ?_))
  k_with "call ref" => ((with_reducible show wpAny _ _ (call (Value.ref 91) _) _ _ _); k_dflt ((refine' Spec.usePos (position_spec stB.off hF b5 b3) eB ?B ?F ?X ?N ?T ?hk ?hd ?hu ?_); (case B => k_asm); (case F => k_asm); (case X => k_asm); (case T => k_asm); (case hk => first | exact rfl | assumption); (case N => first | k_asm | exact News.tl (by k_asm) | exact News.tl (News.tl (by k_asm)) | exact News.tl (News.tl (News.tl (by k_asm)))); (case hd => ktr_room); (case hu => ktr_units); intro DB tb1 tb2 h' tk' hltB hle' F' N'; (try k_lt hltB); (try dsimp only); (try k_fold)))
  k_with "call ref" => ((with_reducible show wpAny _ _ (call (Value.ref 91) _) _ _ _); (obtain ⟨nB, n8, hKB, hFA, hsub⟩ := led_swap hK hF); (with_reducible rename News _ _ _ _ => N9); k_dflt (have N8 := News.sub N9 (fun z hz => List.Mem.tail _ (hsub z hz))); (clear N9 hK hF); k_dflt ((refine' Spec.usePos (position_spec stA.off hFA a5 a3) eA ?B ?F ?X ?N ?T ?hk ?hd ?hu ?_); (case B => k_asm); (case F => k_asm); (case X => k_asm); (case T => k_asm); (case hk => first | exact rfl | assumption); (case N => first | k_asm | exact News.tl (by k_asm) | exact News.tl (News.tl (by k_asm)) | exact News.tl (News.tl (News.tl (by k_asm)))); (case hd => ktr_room); (case hu => ktr_units); intro DA ta1 ta2 h' tk' hltA hle' F' N'; (try k_lt hltA); (try dsimp only); (try k_fold)))
  by_cases hP1 : P.1 = 1
  · k_with "compareOp NotEq ref ref" => (k_here; (with_reducible show wpAny _ _ (compareOp CmpOp.NotEq (Value.ref _) (Value.ref _)) _ _ _); k_dflt (refine' ne_tup2_no ?epN ?epa ?epb ?epu ?ep1 ?ep2 ?_; (case epN => k_asm); (case epa => exact .tail _ (.head _)); (case epb => exact .head _); (case epu => ke_room); (case ep1 => exact sh_a hp2); (case ep2 => exact sh_b hP1); k_whole))
    k_steps
    all_goals (
      rename Fr _ _ _ _ => F9
      rename News _ _ _ _ => N9
      obtain ⟨nF, n8, hK8, hF8, hsub⟩ := led_swap hKB hFA
      exact hret _ _ _ _ _ (FrL5.of ⟨_, rfl⟩ hv rfl (fun z a0 a1 a2 a3 a4 a5 => (by repeat (first | with_reducible rfl | refine (if_neg (by assumption)).trans ?_ | rfl)))) hK8 hF8 F9 (News.sub (by first | exact News.tl (News.tl N9) | exact News.tl N9 | exact N9) hsub))
  · k_with "compareOp NotEq ref ref" => (k_here; (with_reducible show wpAny _ _ (compareOp CmpOp.NotEq (Value.ref _) (Value.ref _)) _ _ _); k_dflt (refine' ne_tup2_no ?eqN ?eqa ?eqb ?equ ?eq1 ?eq2 ?_; (case eqN => k_asm); (case eqa => exact .tail _ (.head _)); (case eqb => exact .head _); (case equ => ke_room); (case eq1 => exact sh_a hp2); (case eq2 => exact sh_c hP1); k_whole))
    k_steps
    all_goals (
      rename Fr _ _ _ _ => F9
      rename News _ _ _ _ => N9
      obtain ⟨nF, n8, hK8, hF8, hsub⟩ := led_swap hKB hFA
      exact hret _ _ _ _ _ (FrL5.of ⟨_, rfl⟩ hv rfl (fun z a0 a1 a2 a3 a4 a5 => (by repeat (first | with_reducible rfl | refine (if_neg (by assumption)).trans ?_ | rfl)))) hK8 hF8 F9 (News.sub (by first | exact News.tl (News.tl N9) | exact News.tl N9 | exact N9) hsub))
set_option maxRecDepth 100000 in
set_option maxHeartbeats 4000000 in
theorem turn_spec (hK : LedIs w R r0 adA xA stA nK) (hF : LedIs w R2 nK adB xB stB news) (h5 : Two5 R R2 k stA stB p)
    (bd : List Stmt) (sc : Scope) (hb : forB = bd) (hs : lawSc = sc) (n : Int) {t0 tr : Tok} {u1 u2 u3 : Option Value} {v : Value} {fr : Option Nat} (hv : BufIs v fr) (hfr : Fresh5 R2 stA stB p fr) (hq : q = ((norm R).take k).foldl adv (1, 0))
    (dp un : Nat) (gd : Option (List Code)) (a : Addr) (ccd : Value) (cl : List (Str × Addr)) (outer : List Env) (A₀ : Around) (base h₀ : Heap) (L : Addr) (s : Shared) (Q : Flow → Shared → Prop) (E : Value → Shared → Prop)
    (B : Below A₀ base outer h₀) (F : Fr h₀ L s.heap (fun y => if y = Str.ofString "n" then some (.int n t0) else if y = Str.ofString "run" then u1 else if y = Str.ofString "line" then u2 else if y = Str.ofString "column" then u3 else if y = Str.ofString "read" then some (.str (S ((norm R2).take p)) tr) else if y = Str.ofString "fresh" then some v else base5 xA xB Dg Ds k q tq1 tq2 tq3 us vt vs y))
    (X : (hd05.heap_39 w.params).In h₀) (N : News h₀ L s.heap news) (T : Top hd05.view_39 loose mean mg mb h₀) (hd : dp + 100 < recursionLimit) (hu : un + 800 < cLine) (hE : PassesOwn (model PySem.Challenge.pw_te0074_05 w) (ktrTop dp un gd (Str.ofString "law") sc L a ccd cl outer) (envOf (Str.ofString "law") sc L a ccd) E)
    (hret : ∀ h' tk' m' (stA' stB' : St) (p' : Nat) (fr' : Option Nat) nK' nw', FrL5 (base5 xA xB Dg Ds k q tq1 tq2 tq3 us vt vs) (norm R2) p' fr' m' → Two5 R R2 k stA' stB' p' → Fresh5 R2 stA' stB' p' fr' → LedIs w R r0 adA xA stA' nK' → LedIs w R2 nK' adB xB stB' nw' → Fr h₀ L h' m' → News h₀ L h' nw' → Q .next { s with heap := h', toks := tk' }) :
    wpAny (model PySem.Challenge.pw_te0074_05 w) (ktrTop dp un gd (Str.ofString "law") sc L a ccd cl outer) (execs bd (envOf (Str.ofString "law") sc L a ccd)) Q E s := by
  conv at hb => lhs; whnf
  subst hb
  have fin : ∀ h' tk' m' (stA' stB' : St) (p' : Nat) (fr' : Option Nat) nK' nw', FrL5 (base5 xA xB Dg Ds k q tq1 tq2 tq3 us vt vs) (norm R2) p' fr' m' → Two5 R R2 k stA' stB' p' → Fresh5 R2 stA' stB' p' fr' → LedIs w R r0 adA xA stA' nK' → LedIs w R2 nK' adB xB stB' nw' → Fr h₀ L h' m' → News h₀ L h' nw' → wpAny (model PySem.Challenge.pw_te0074_05 w) (ktrTop dp un gd (Str.ofString "law") sc L a ccd cl outer) (execs (forB.drop 1) (envOf (Str.ofString "law") sc L a ccd)) Q E { s with heap := h', toks := tk' } := by
    intro h3 tk3 m3 stA3 stB3 p3 fr3 nK3 nw3 hFr3 h53 hfr3 hK3 hF3 F3 N3
    obtain ⟨c0, c1, c2, c3, ctr, cv, hcv, rfl⟩ := hFr3
    refine d12 hK3 hF3 h53 _ _ rfl hs hcv hq dp un gd a ccd cl outer A₀ base h₀ L _ _ E B F3 X N3 T hd hu hE ?_
    intro h4 tk4 m4 nK4 nw4 hFr4 hK4 hF4 F4 N4
    exact hret _ _ _ stA3 stB3 p3 fr3 nK4 nw4 hFr4 h53 hfr3 hK4 hF4 F4 N4
  by_cases hw : (n.fdiv 12).fmod 4 = 0
  · exact wpAny_execs_cons (d0a hK hF h5 _ _ _ rfl hs n dp un gd a ccd cl outer A₀ base h₀ L _ _ E B F X N T hd hu hE hw fin)
  by_cases hw3 : (n.fdiv 12).fmod 4 = 3
  · exact wpAny_execs_cons (d0b hK hF h5 _ _ _ rfl hs n hv hfr dp un gd a ccd cl outer A₀ base h₀ L _ _ E B F X N T hd hu hE hw3 fin)
  · exact wpAny_execs_cons (d0c hK hF h5 _ _ _ rfl hs n dp un gd a ccd cl outer A₀ base h₀ L _ _ E B F X N T hd hu hE hw hw3 fin)
set_option maxRecDepth 100000 in
set_option maxHeartbeats 4000000 in
theorem for_spec (hK : LedIs w R r0 adA xA stA nK) (hF : LedIs w R2 nK adB xB stB news) (h5 : Two5 R R2 k stA stB p)
    {l : Addr} {es : List Value} {ks : List Int} {nn : Nat} (hmem : (l, W.listOf es.toArray nn) ∈ r0) (hI : IntsAre es ks)
    (bd : List Stmt) (sc : Scope) (hb : forB = bd) (hs : lawSc = sc) {fr : Option Nat} (hfr : Fresh5 R2 stA stB p fr) (hq : q = ((norm R).take k).foldl adv (1, 0)) {m₀ : Str → Option Value} (hm : FrL5 (base5 xA xB Dg Ds k q tq1 tq2 tq3 us vt vs) (norm R2) p fr m₀)
    {dp un : Nat} {gd : Option (List Code)} {a : Addr} {ccd : Value} {cl : List (Str × Addr)} {outer : List Env} {A₀ : Around} {base h₀ : Heap} {L : Addr} {s : Shared} {Q : Flow → Shared → Prop} {E : Value → Shared → Prop} {xn : Str} (hx : xn = Str.ofString "n")
    (B : Below A₀ base outer h₀) (F : Fr h₀ L s.heap m₀)
    (X : (hd05.heap_39 w.params).In h₀) (N : News h₀ L s.heap news) (T : Top hd05.view_39 loose mean mg mb h₀) (hd : dp + 100 < recursionLimit) (hu : un + 800 < cLine) (hE : PassesOwn (model PySem.Challenge.pw_te0074_05 w) (ktrTop dp un gd (Str.ofString "law") sc L a ccd cl outer) (envOf (Str.ofString "law") sc L a ccd) E)
    (done : ∀ h' tk' m' (stA' stB' : St) (p' : Nat) (fr' : Option Nat) nK' nw', FrL5 (base5 xA xB Dg Ds k q tq1 tq2 tq3 us vt vs) (norm R2) p' fr' m' → Two5 R R2 k stA' stB' p' → LedIs w R r0 adA xA stA' nK' → LedIs w R2 nK' adB xB stB' nw' → Fr h₀ L h' m' → News h₀ L h' nw' → Q .next { s with heap := h', toks := tk' }) :
    wpAny (model PySem.Challenge.pw_te0074_05 w) (ktrTop dp un gd (Str.ofString "law") sc L a ccd cl outer) (pyIter (.ref l)) (fun it s₂ => LoopAtV PySem.Challenge.pw_te0074_05 w (ktrTop dp un gd (Str.ofString "law") sc L a ccd cl outer) h₀ (envOf (Str.ofString "law") sc L a ccd) xn bd Q E it s₂) E s := by
  subst hx
  have hmn := LedR.mem_rest hF (LedR.mem_rest hK hmem)
  refine loop_Lm (env := envOf (Str.ofString "law") sc L a ccd) (fun _ _ m' nx => ∃ (stA' stB' : St) (p' : Nat) (fr' : Option Nat) (nK' : List (Addr × Obj)), FrL5 (base5 xA xB Dg Ds k q tq1 tq2 tq3 us vt vs) (norm R2) p' fr' m' ∧ Two5 R R2 k stA' stB' p' ∧ Fresh5 R2 stA' stB' p' fr' ∧ LedIs w R r0 adA xA stA' nK' ∧ LedIs w R2 nK' adB xB stB' nx) (by rfl) hmn F N ⟨stA, stB, p, fr, nK, hm, h5, hfr, hK, hF⟩ ?_ ?_
  · intro i v m₁ nx h tk own hv hadr hown hlm hJ F' N'
    obtain ⟨stA', stB', p', fr', nK', hm', h5', hfr', hK', hF'⟩ := hJ
    obtain ⟨n, t, rfl, hk⟩ := IntsAre.at hI i v hv
    obtain ⟨u0, u1, u2, u3, tr, v', hv', rfl⟩ := hm'
    have ha := LedR.addr hF
    rw [LedR.addr hK] at ha
    rw [ha] at hown
    have F2 : Fr h₀ L h (fun y => if y = Str.ofString "n" then some (.int n t) else if y = Str.ofString "run" then u1 else if y = Str.ofString "line" then u2 else if y = Str.ofString "column" then u3 else if y = Str.ofString "read" then some (.str (S ((norm R2).take p')) tr) else if y = Str.ofString "fresh" then some v' else base5 xA xB Dg Ds k q tq1 tq2 tq3 us vt vs y) := by
      rw [← cut_if (u := u0)]
      exact F'
    refine turn_spec (LedR.app hK' (fun z hz b hb => hown z hz b (List.mem_append.mpr (.inr (List.mem_append.mpr (.inl hb)))))) (LedR.app hF' (fun z hz b hb => hown z hz b (List.mem_append.mpr (.inl hb)))) h5' bd sc hb hs n hv' hfr' hq dp un gd a ccd cl outer A₀ base h₀ L _ _ E B F2 X N' T hd hu hE ?_
    intro h' tk' m' stA2 stB2 p2 fr2 nK2 nw2 hm2 h52 hfr2 hK2 hF2 Fe Ne
    exact led_end2 Fe Ne hK2 hF2 (by rw [ha]) (fun nk nx h1 h2 => ⟨LedR.mem_rest h2 (LedR.mem_rest h1 hmem), stA2, stB2, p2, fr2, nk, hm2, h52, hfr2, h1, h2⟩)
  · intro m₁ nx h tk hlm hJ F' N'
    obtain ⟨stA', stB', p', fr', nK', hm', h5', hfr', hK', hF'⟩ := hJ
    exact done h tk m₁ stA' stB' p' fr' nK' nx hm' h5' hK' hF' F' N'
end
theorem off1_all {D : Addr} : ∀ {l : List (Addr × Obj)}, LCg.Off1 D l → ∀ p ∈ l, p.1 ≠ D
  | [], _, p, hp => by cases hp
  | q :: r, h, p, hp => by
    rcases List.mem_cons.mp hp with rfl | hp
    · exact h.1
    · exact off1_all h.2 p hp
theorem LedR.pushN {w : World} {R : List Nat} {rest : List (Addr × Obj)} {ad : List Nat} {x : Nat} {ck : List Nat} {sz of : Int} {er : Nat} {pl pc : Int} {bf : Option Nat} {pla : Int} {news : List (Addr × Obj)} {h₀ g : Heap} {L : Addr} {D : Nat} {o : Obj} (h : LedR w R rest ad x ck sz of er pl pc bf pla news) (hl : ∀ p ∈ news, p.1 ≠ D) (N : News h₀ L g ((D, o) :: news)) :
    ∃ n2, LedR w R ((D, o) :: rest) ad x ck sz of er pl pc bf pla n2 ∧ News h₀ L g n2 := by
  have ha := h.addr
  have hD : ∀ b ∈ ad, D ≠ b := fun b hb => by
    have : b ∈ news.map (·.1) := by rw [ha]; exact List.mem_append.mpr (.inl hb)
    obtain ⟨p, hp, rfl⟩ := List.mem_map.mp this
    exact (hl p hp).symm
  have hO := h.off
  obtain ⟨n7, h7, rfl⟩ := LedR.part (rest := []) h
  refine ⟨n7 ++ (D, o) :: rest, LedR.app (rest := []) h7 (fun p hp b hb => ?_), fun p hp => N p (List.mem_cons.mpr (mem_mid.mp hp))⟩
  rcases List.mem_cons.mp hp with rfl | hp
  · exact hD b hb
  · exact hO p hp b hb
section
variable {w : World} {mean : ExcName → Option Value} {mg mb : Str → Option Value} {R R2 : List Nat} {r0 nK news : List (Addr × Obj)} {adA adB : List Nat} {xA xB : Nat} {stA stB : St} {k p : Nat} {Dg Ds : Addr} {q : Nat × Nat} {tq1 tq2 tq3 : Tok} {us : Option Value} {vt vs : Value}
set_option maxRecDepth 100000 in
set_option maxHeartbeats 4000000 in
theorem tail_spec (hK : LedIs w R r0 adA xA stA nK) (hF : LedIs w R2 nK adB xB stB news) (h5 : Two5 R R2 k stA stB p) {gs : List Value} {ng : Nat} (hg : (Dg, W.listOf gs.toArray ng) ∈ r0) (hS : StrsAre gs (sg (norm R))) (hk : k ≤ (norm R).length) (hcnt : R.countP isInv = ((norm R).take k).countP bad5 + R2.countP isInv)
    (bd : List Stmt) (sc : Scope) (hb : lawB.drop 13 = bd) (hs : lawSc = sc) {tr : Tok} {u0 u1 u2 u3 : Option Value} {v : Value}
    (dp un : Nat) (gd : Option (List Code)) (a : Addr) (ccd : Value) (cl : List (Str × Addr)) (outer : List Env) (A₀ : Around) (base h₀ : Heap) (L : Addr) (s : Shared) (Q : Flow → Shared → Prop) (E : Value → Shared → Prop)
    (B : Below A₀ base outer h₀) (F : Fr h₀ L s.heap (fun y => if y = Str.ofString "n" then u0 else if y = Str.ofString "run" then u1 else if y = Str.ofString "line" then u2 else if y = Str.ofString "column" then u3 else if y = Str.ofString "read" then some (.str (S ((norm R2).take p)) tr) else if y = Str.ofString "fresh" then some v else base5 xA xB Dg Ds k q tq1 tq2 tq3 us vt vs y))
    (X : (hd05.heap_39 w.params).In h₀) (N : News h₀ L s.heap news) (T : Top hd05.view_39 loose mean mg mb h₀) (hd : dp + 100 < recursionLimit) (hu : un + 800 < cLine) (hE : PassesOwn (model PySem.Challenge.pw_te0074_05 w) (ktrTop dp un gd (Str.ofString "law") sc L a ccd cl outer) (envOf (Str.ofString "law") sc L a ccd) E)
    (hret : ∀ h' tk' m' nw', Fr h₀ L h' m' → News h₀ L h' nw' → Q (.ret (.bool true)) { s with heap := h', toks := tk' }) :
    wpAny (model PySem.Challenge.pw_te0074_05 w) (ktrTop dp un gd (Str.ofString "law") sc L a ccd cl outer) (execs bd (envOf (Str.ofString "law") sc L a ccd)) Q E s := by
  conv at hb => lhs; whnf
  conv at hs => lhs; whnf
  subst hb hs
  have hl2 := norm28 h5.rB
  have hlR := norm28 h5.rA
  have hple := invG_le h5.iB
  obtain ⟨nA, mB, l6, stA1, stB1, uA, hnA, uB, hmB, hl6, h51⟩ := h5.until (fun c => decide (c ∈ ([] : List Nat))) false
  rw [run_all0] at hl6
  have hlen6 : p + l6.length = (norm R2).length := by rw [hl6, List.length_drop, Nat.add_sub_cancel' hple]
  rw [hlen6] at h51
  have hread : (norm R2).take p ++ l6 = (norm R).drop k := by rw [hl6, List.take_append_drop, h5.hn]
  have hl628 : l6.length ≤ 28 := Nat.le_trans (Nat.le_add_left _ p) (by rw [hlen6]; exact hl2)
  have hend : ¬ (norm R2).length < (norm R2).length := Nat.lt_irrefl _
  have hendA : ¬ k + (norm R2).length < (norm R).length := fun h => hend (h51.lt.mp h)
  obtain ⟨cA, iA2⟩ := invG_char_end h51.iA h51.rA.plain hendA
  obtain ⟨stA2, hstA2⟩ : ∃ stA2, stA1.fetch R 10240 = stA2 := ⟨_, rfl⟩
  rw [hstA2] at cA iA2
  have herr : stA2.errs = ((norm R).take k).countP bad5 + stB1.errs := by rw [(invG_end iA2 hendA).1, (h51.errs hend).2]; exact hcnt
  obtain ⟨a1, a2, a3, a4, a5⟩ := h5.okA
  obtain ⟨b1, b2, b3, b4, b5⟩ := h5.okB
  obtain ⟨o1, o2, o3, o4, o5⟩ := h51.okA
  obtain ⟨o6, o7, o8, o9, o0⟩ := h51.okB
  obtain ⟨q1, q2, q3, q4, q5⟩ := invG_ok iA2 h51.rA.len3
  have eA := (invG_spot iA2).symm
  rw [show k + (norm R2).length = (norm R).length by rw [h5.hn, List.length_drop, Nat.add_sub_cancel' hk], List.take_length] at eA
  have hcn : ((norm R).take k).countP bad5 ≤ 1000 := Nat.le_trans List.countP_le_length (Nat.le_trans (List.length_take_le' _ _) (le3 hlR rfl))
  have hl100 : ((norm R).drop k).length ≤ 100 := by rw [List.length_drop]; exact Nat.le_trans (Nat.sub_le _ _) (le3 hlR rfl)
  have htk : ((norm R).take k).length = k := by rw [List.length_take, Nat.min_eq_left hk]
  have hcode : ∀ c ∈ (norm R).take k, c < 1114112 := fun c hc => by
    rcases norm_in (List.mem_of_mem_take hc) with h | h
    · rw [h]; decide
    · exact h5.rA.code c h
  clear hcnt iA2 h51 h5
  have es1 : Str.ofString "\x01" = S [1] := by decide +kernel
  have es2 : Str.ofString "\ufffe" = S [65534] := by decide +kernel
  unfold LedIs at hK hF
  k_with_none
  k_with "tb" => (first | assumption | (apply le3; assumption; exact rfl) | lia | (simp only [List.length_append, List.length_cons, List.length_nil, List.length_take, List.length_drop, List.length_dropLast, crs_len, partOf_len] at *; lia) | ((with_reducible refine Nat.le_trans (crlf_len _) ?_); tb_start) | ((with_reducible refine Nat.le_trans (split_len _) ?_); tb_start) | ((with_reducible refine Nat.le_trans (norm_len _) ?_); tb_start))
  k_with "call builtin:str.count" => (refine count4 (by decide +kernel) (by first | assumption | lia) ?_)
  k_with "call builtin:str.rfind" => (refine rfind4 (by decide +kernel) (by first | assumption | lia) ?_)
  k_with "call builtin:str.replace" => ((try dsimp only at *); k_dflt (refine repl_crlf_S (by decide +kernel) (by decide +kernel) (by k_ne) (by k_ne) (by k_ne) (by tb_start) ?_); intro _ _ _)
  k_with "call builtin:str.replace" => ((try dsimp only at *); k_dflt (refine repl_cr_S (by decide +kernel) (by decide +kernel) (by k_ne) (by k_ne) (by k_ne) (by tb_start) ?_); intro _ _ _)
  k_with "call builtin:len" => ((with_reducible show wpAny _ _ (call (Value.builtin "len") [Value.str (S _) _]) _ _ _); refine len_S (by tb_start) ?_)
  k_with "call builtin:ord" => ((with_reducible show wpAny _ _ (call (Value.builtin "ord") [Value.str (S _) _]) _ _ _); refine ord_S ?_)
  k_with "binaryOp Add str str" => ((with_reducible show wpAny _ _ (binaryOp Operator.Add (Value.str (S _) _) (Value.str (S _) _)) _ _ _); refine add_S (by tb_start) ?_; intro _ _)
  k_with "inplaceOp Add str str" => ((with_reducible show wpAny _ _ (inplaceOp Operator.Add (Value.str (S _) _) (Value.str (S _) _)) _ _ _); refine iadd_S (by tb_start) ?_; intro _ _)
  k_with "truthy str" => ((with_reducible show wpAny _ _ (truthy (Value.str (S _) _)) _ _ _); refine truthy_S (by tb_start) ?_)
  k_with "compareOp Eq str str" => ((with_reducible show wpAny _ _ (compareOp CmpOp.Eq (Value.str (S _) _) (Value.str (S _) _)) _ _ _); refine eq_S ?_)
  k_with "compareOp NotEq str str" => ((with_reducible show wpAny _ _ (compareOp CmpOp.NotEq (Value.str (S _) _) (Value.str (S _) _)) _ _ _); refine ne_S ?_)
  k_with "subscriptTail Name Slice str ref" => (k_here; (with_reducible rename Fr _ _ _ _ => F'); (with_reducible rename News _ _ _ _ => N'); k_dflt (refine drop_S (s := ⟨_, _, _, _, _⟩) F' N' (by tb_start) ?_); intro _ _ _ _ _; (try k_sweep))
  k_with "subscriptTail Name Slice str ref" => (k_here; (with_reducible rename Fr _ _ _ _ => F'); (with_reducible rename News _ _ _ _ => N'); k_dflt (refine take_S (s := ⟨_, _, _, _, _⟩) F' N' (by tb_start) ?_); intro _ _ _ _ _; (try k_sweep))
  k_with "subscriptTail Name Slice str ref" => (k_here; (with_reducible rename Fr _ _ _ _ => F'); (with_reducible rename News _ _ _ _ => N'); k_dflt (refine mid_S (s := ⟨_, _, _, _, _⟩) F' N' (by tb_start) ?_); intro _ _ _ _ _; (try k_sweep))
  k_with "subscriptTail Name Slice str ref" => (k_here; (with_reducible rename Fr _ _ _ _ => F'); (with_reducible rename News _ _ _ _ => N'); k_dflt (refine part_S (s := ⟨_, _, _, _, _⟩) F' N' (by tb_start) ?_); intro _ _ _ _ _; (try k_sweep))
  k_with "subscriptTail Name Slice str ref" => (k_here; (with_reducible rename Fr _ _ _ _ => F'); (with_reducible rename News _ _ _ _ => N'); k_dflt (refine init_S (s := ⟨_, _, _, _, _⟩) F' N' (by tb_start) ?_); intro _ _ _ _ _; (try k_sweep))
  k_with "subscriptTail Name UnaryOp str int" => (k_here; (with_reducible show wpAny _ _ (subscriptTail _ _ (Value.str (S _) _) (Value.int _ _)) _ _ _); k_dflt (first | (refine last_S (by first | assumption | (intro hz; simp only [hz, List.length_nil] at *; lia)) (by tb_start) ?_) | (refine item_S (by first | assumption | lia | k_extra "my item") (by tb_start) ?_)))
  k_with "subscriptTail Name Name str int" => (k_here; (with_reducible show wpAny _ _ (subscriptTail _ _ (Value.str (S _) _) (Value.int _ _)) _ _ _); first | (with_reducible refine item_S (by k_dflt (first | assumption | lia | k_extra "my item")) (by k_dflt tb_start) ?_) | k_dflt (refine item_Si (by lia) (by first | lia | k_extra "my item") (by tb_start) ?_))
  k_with "subscriptTail Name Constant str int" => (k_here; (with_reducible show wpAny _ _ (subscriptTail _ _ (Value.str (S _) _) (Value.int _ _)) _ _ _); first | (with_reducible refine item_S (by k_dflt (first | assumption | lia | k_extra "my item")) (by k_dflt tb_start) ?_) | k_dflt (refine item_Si (by lia) (by first | lia | k_extra "my item") (by tb_start) ?_))
  k_with "subscriptTail Name BinOp str int" => (k_here; (with_reducible show wpAny _ _ (subscriptTail _ _ (Value.str (S _) _) (Value.int _ _)) _ _ _); first | (with_reducible refine item_S (by k_dflt (first | assumption | lia | k_extra "my item")) (by k_dflt tb_start) ?_) | k_dflt (refine item_Si (by lia) (by first | lia | k_extra "my item") (by tb_start) ?_))
  k_with "subscriptTail Attribute Name str int" => (k_here; (with_reducible show wpAny _ _ (subscriptTail _ _ (Value.str (S _) _) (Value.int _ _)) _ _ _); first | (with_reducible refine item_S (by k_dflt (first | assumption | lia | k_extra "my item")) (by k_dflt tb_start) ?_) | k_dflt (refine item_Si (by lia) (by first | lia | k_extra "my item") (by tb_start) ?_))
  k_with "subscriptTail Attribute Constant str int" => (k_here; (with_reducible show wpAny _ _ (subscriptTail _ _ (Value.str (S _) _) (Value.int _ _)) _ _ _); first | (with_reducible refine item_S (by k_dflt (first | assumption | lia | k_extra "my item")) (by k_dflt tb_start) ?_) | k_dflt (refine item_Si (by lia) (by first | lia | k_extra "my item") (by tb_start) ?_))
  k_with "subscriptTail Attribute Attribute str int" => (k_here; (with_reducible show wpAny _ _ (subscriptTail _ _ (Value.str (S _) _) (Value.int _ _)) _ _ _); first | (with_reducible refine item_S (by k_dflt (first | assumption | lia | k_extra "my item")) (by k_dflt tb_start) ?_) | k_dflt (refine item_Si (by lia) (by first | lia | k_extra "my item") (by tb_start) ?_))
  k_with "truthy ref" => (k_here; k_dflt (refine' truthy_meth ?N ?q ?_; (case N => k_asm); (case q => k_mem); k_whole))
  k_with "exec For Name Name cons nil" => (k_here; (with_reducible rename Fr _ _ _ _ => lF'); k_dflt (refine' For_invVF lF' ?k1 ?k2 ?_; (case k1 => exact rfl); (case k2 => exact rfl); k_whole))
  k_with "exec For Name Subscript cons nil" => (k_here; (with_reducible rename Fr _ _ _ _ => lF'); k_dflt (refine' For_invVF lF' ?k1 ?k2 ?_; (case k1 => exact rfl); (case k2 => exact rfl); k_whole))
  k_with "all" => (refine List.forall_mem_append.mpr ⟨?a, ?b⟩; (case a => k_all); (case b => k_all))
  k_with "rel" => (simp only [List.size_toArray]; rw [PySem.sizeLine_eq]; lia)
  k_with "call builtin:list.append" => (k_here; (with_reducible show wpAny _ _ (call (Value.builtin _) [Value.ref _, _]) _ _ _); k_dflt (refine' append_K ?k1 ?k2 ?k3 ?_ ?z; (case k1 => k_asm); (case k2 => k_asm); (case k3 => k_upd); (case z => tb_rel); k_whole); intro h' F' N'; (try simp only [List.push_toArray] at N'); (try k_sweep))
  k_with "enter" => (refine' code_def ?k1 ?k2 ?k3 ?k4 ?k5 ?kA ?kF ?kK ?k6 ?k7 ?k8 ?k9 ?kB ?_ ?c2 ?c3 ?c4 ?c5; (case kA => exact rfl); (case kF => exact rfl); (case kK => assumption); (case k1 => k_asm); (case k2 => k_asm); (case k3 => k_asm); (case k4 => k_asm); (case k5 => k_asm); (case k6 => k_is); (case k7 => k_is); (case k8 => ktr_room); (case k9 => first | exact BindsTo.of_eq rfl | exact binds_K (by k_in) rfl (by k_is) rfl rfl rfl); (case c5 => decide); (case kB => exact locs rfl); (case c2 => exact rfl); (case c3 => exact rfl); (case c4 => exact rfl); k_whole; intro g' L' h' FG' F' N' B' X' T'; (try dsimp only); (try k_lift B'); (try k_fold))
  k_with "JoinP" => (dsimp only [JoinP])
  k_with "subscriptTail" => (k_here; (with_reducible show wpAny _ _ (subscriptTail _ _ (Value.str (S _) _) (Value.int _ _)) _ _ _); first | (with_reducible refine item_S (by k_dflt (first | assumption | lia | k_extra "my item")) (by k_dflt tb_start) ?_) | k_dflt (refine item_Si (by lia) (by first | lia | k_extra "my item") (by tb_start) ?_))
  k_with "compareOp Eq str str" => ((with_reducible show wpAny _ _ (compareOp CmpOp.Eq (Value.str (S _) _) (Value.str (Str.ofString _) _)) _ _ _); k_dflt (first | refine eq_lit [13] (by decide +kernel) ?_ | refine eq_lit [10] (by decide +kernel) ?_))
  k_with "compareOp NotEq str str" => ((with_reducible show wpAny _ _ (compareOp CmpOp.NotEq (Value.str (S _) _) (Value.str (Str.ofString _) _)) _ _ _); k_dflt (first | refine ne_lit [13] (by decide +kernel) ?_ | refine ne_lit [10] (by decide +kernel) ?_))
  k_with "inplaceOp Add str str" => ((with_reducible show wpAny _ _ (inplaceOp Operator.Add (Value.str (S _) _) (Value.str (Str.ofString _) _)) _ _ _); k_dflt (refine iadd_lit [10] (by decide +kernel) (by tb_start) ?_); intro _ _)
  k_with "room" => (k_dflt ((first | apply room4 | apply room3 | apply room2 | apply room1 | apply room0 | apply roomz); assumption; exact rfl))
  k_with "getAttr ref" => ((with_reducible show wpAny _ _ (getAttr (Value.ref _) (Str.ofString "errors") _) _ _ _); k_dflt (refine g_errors (by assumption) (by k_asm) (by k_asm) ?N ?_; (case N => first | k_asm | exact News.sub (by k_asm) (fun q hq => LedR.mem_rest (by assumption) hq) | exact News.sub (News.tl (by k_asm)) (fun q hq => LedR.mem_rest (by assumption) hq) | exact News.sub (News.tl (News.tl (by k_asm))) (fun q hq => LedR.mem_rest (by assumption) hq) | exact News.tl (by k_asm) | exact News.tl (News.tl (by k_asm)) | exact News.tl (News.tl (News.tl (by k_asm))))); intro _ hE1)
  k_with "getMethod ref" => ((with_reducible show wpAny _ _ (getMethod (Value.ref _) (Str.ofString "position") _) _ _ _); k_dflt (refine m_pos (by assumption) (by k_asm) (by k_asm) ?N ?_; (case N => first | k_asm | exact News.sub (by k_asm) (fun q hq => LedR.mem_rest (by assumption) hq) | exact News.sub (News.tl (by k_asm)) (fun q hq => LedR.mem_rest (by assumption) hq) | exact News.sub (News.tl (News.tl (by k_asm))) (fun q hq => LedR.mem_rest (by assumption) hq) | exact News.tl (by k_asm) | exact News.tl (News.tl (by k_asm)) | exact News.tl (News.tl (News.tl (by k_asm))))))
  k_with "getMethod ref" => ((with_reducible show wpAny _ _ (getMethod (Value.ref _) (Str.ofString "char") _) _ _ _); k_dflt (refine m_char (by assumption) (by k_asm) (by k_asm) ?N ?_; (case N => first | k_asm | exact News.sub (by k_asm) (fun q hq => LedR.mem_rest (by assumption) hq) | exact News.sub (News.tl (by k_asm)) (fun q hq => LedR.mem_rest (by assumption) hq) | exact News.sub (News.tl (News.tl (by k_asm))) (fun q hq => LedR.mem_rest (by assumption) hq) | exact News.tl (by k_asm) | exact News.tl (News.tl (by k_asm)) | exact News.tl (News.tl (News.tl (by k_asm))))))
  k_with "getMethod ref" => ((with_reducible show wpAny _ _ (getMethod (Value.ref _) (Str.ofString "readChunk") _) _ _ _); k_dflt (refine m_chunk (by assumption) (by k_asm) (by k_asm) ?N ?_; (case N => first | k_asm | exact News.sub (by k_asm) (fun q hq => LedR.mem_rest (by assumption) hq) | exact News.sub (News.tl (by k_asm)) (fun q hq => LedR.mem_rest (by assumption) hq) | exact News.sub (News.tl (News.tl (by k_asm))) (fun q hq => LedR.mem_rest (by assumption) hq) | exact News.tl (by k_asm) | exact News.tl (News.tl (by k_asm)) | exact News.tl (News.tl (News.tl (by k_asm))))))
  k_with "getMethod ref" => ((with_reducible show wpAny _ _ (getMethod (Value.ref _) (Str.ofString "unget") _) _ _ _); k_dflt (refine m_unget (by assumption) (by k_asm) (by k_asm) ?N ?_; (case N => first | k_asm | exact News.sub (by k_asm) (fun q hq => LedR.mem_rest (by assumption) hq) | exact News.sub (News.tl (by k_asm)) (fun q hq => LedR.mem_rest (by assumption) hq) | exact News.sub (News.tl (News.tl (by k_asm))) (fun q hq => LedR.mem_rest (by assumption) hq) | exact News.tl (by k_asm) | exact News.tl (News.tl (by k_asm)) | exact News.tl (News.tl (News.tl (by k_asm))))))
  k_with "getMethod ref" => ((with_reducible show wpAny _ _ (getMethod (Value.ref _) (Str.ofString "charsUntil") _) _ _ _); k_dflt (refine m_until (by assumption) (by k_asm) (by k_asm) ?N ?_; (case N => first | k_asm | exact News.sub (by k_asm) (fun q hq => LedR.mem_rest (by assumption) hq) | exact News.sub (News.tl (by k_asm)) (fun q hq => LedR.mem_rest (by assumption) hq) | exact News.sub (News.tl (News.tl (by k_asm))) (fun q hq => LedR.mem_rest (by assumption) hq) | exact News.tl (by k_asm) | exact News.tl (News.tl (by k_asm)) | exact News.tl (News.tl (News.tl (by k_asm))))))
  k_with "call ref" => ((with_reducible show wpAny _ _ (call (Value.ref 121) _) _ _ _); k_dflt ((refine' Spec.useS (until_new (st := stB) hF (by assumption) (in_tup (q := []) .nil) _ (.inr ⟨rfl, rfl⟩) uB hmB) ?B ?F ?X ?N ?T ?hk ?hd ?hu ?_); (case B => k_asm); (case F => k_asm); (case X => k_asm); (case T => k_asm); (case hk => first | exact rfl | assumption); (case N => first | k_asm | exact News.tl (by k_asm) | exact News.tl (News.tl (by k_asm)) | exact News.tl (News.tl (News.tl (by k_asm)))); (case hd => ktr_room); (case hu => ktr_units); intro tl6 n' h' tk' hF9 hle' F' N'; (clear hF); (unfold LedIs at hF9); (try dsimp only); (try k_fold)))
  k_with "call ref" => ((with_reducible show wpAny _ _ (call (Value.ref 121) _) _ _ _); (obtain ⟨nB, n8, hKB, hFA, hsub⟩ := led_swap hK hF9); (with_reducible rename News _ _ _ _ => N9); (rename ∀ (z : Addr × Obj), z ∈ _ → z.1 < _ => hltU); k_dflt (have N8 := News.sub N9 (sub_cons (.head _) (fun z hz => .tail _ (hsub z hz)))); (clear N9 hK hF9); k_dflt ((refine' Spec.useS (until_new (st := stA) hFA (fun z hz => hltU z (hsub z hz)) (in_tup (q := []) .nil) _ (.inr ⟨rfl, rfl⟩) uA hnA) ?B ?F ?X ?N ?T ?hk ?hd ?hu ?_); (case B => k_asm); (case F => k_asm); (case X => k_asm); (case T => k_asm); (case hk => first | exact rfl | assumption); (case N => first | k_asm | exact News.tl (by k_asm) | exact News.tl (News.tl (by k_asm)) | exact News.tl (News.tl (News.tl (by k_asm)))); (case hd => ktr_room); (case hu => ktr_units); intro tl7 n' h' tk' hA9 hle' F' N'; (clear hFA hltU); (unfold LedIs at hA9); (try dsimp only); (try k_fold)))
  k_with "subscriptTail Name Slice ref ref" => ((with_reducible rename Fr _ _ _ _ => F9); (with_reducible rename News _ _ _ _ => N9); k_dflt (refine' take_sg (b := k) (s := ⟨_, _, _, _, _⟩) F9 N9 (News.isList N9 (LedR.mem_rest hA9 (LedR.mem_rest hKB hg))) hS hk (le3 hlR rfl) ?_); (clear F9 N9); (intro Dm wm hm' Fm Nm l1m hSm))
  k_with "subscriptTail Name Slice ref ref" => ((with_reducible rename Fr _ _ _ _ => F9); (with_reducible rename News _ _ _ _ => N9); k_dflt (refine' from_L (a := k) (s := ⟨_, _, _, _, _⟩) F9 N9 (News.isList N9 (.tail _ (LedR.mem_rest hC (.tail _ (LedR.mem_rest hKB hg))))) hS hk (le3 hlR rfl) ?_); (clear F9 N9); (intro Dm wm hm' Fm Nm l1m hSm))
  k_with "exec Assign cons ListComp" => (k_dflt (refine LCt.Assign_ListComp_T (F₀ := by k_asm) (by rfl) (by with_unfolding_all rfl) (by with_unfolding_all rfl) (by decide) (by rfl) (by decide) (by rfl) (by rfl) (by rfl) ?_))
  k_with "CompSrcT" => ((have hgl := sg_len hSm); k_dflt (refine LCt.CompSrcT.ledger (by rfl) (by k_asm) (by k_asm) (.head _) (by rw [List.size_toArray, hgl, PySem.sizeLine_eq, htk]; lia) ?_); intro g'; k_dflt (refine restT_inv (fun i ys nw => nw = _ ∧ StrsAre ys (List.replicate ((((norm R).take k).take i).countP bad5) sInv)) ⟨rfl, .nil⟩ ?ca ?cb); (case' ca => intro i v ys nw I oI C oC D m₂ h tk E' hi' hP' hJ hC9 hx F' N' off ne; (obtain ⟨hnw, hS'⟩ := hJ); subst hnw; (obtain ⟨c, tc, hc, hv⟩ := sg_at hSm (by simpa using hP')); subst hv; (have hok := hcode c (List.mem_of_getElem? hc)); (try k_fold)); (case' cb => intro ys nw hJ; (obtain ⟨hnw, hS'⟩ := hJ); subst hnw; (rw [List.size_toArray, hgl, List.take_length] at hS'); intro D2 h2 tk2 F2 N2 off2; (obtain ⟨n2, hT, N3⟩ := LedR.pushN hA9 (off1_all off2.2) (News.dr N2)); (clear hA9 N2); (try dsimp only); (try k_fold)))
  k_with "CompEnd" => ((with_reducible show LCg.CompEnd _ _ _ _ _ _ _ _ _ _ _ _ _ _); (with_reducible rename News _ _ _ _ => N9); (rename (List.any _ _ = _) => hany); (rw [es1, es2] at hany); k_dflt (refine LCg.CompEnd.intro (by assumption) (News.tl N9) _ (fun p hp => hp) (by assumption) (.inr ⟨_, .head _, rfl, _, rfl⟩) ⟨rfl, ?_⟩); first | exact rep_yes5 hc hany hS' | exact rep_no5 hc hany hS')
  k_with "call ref" => ((with_reducible show wpAny _ _ (call (Value.ref 98) _) _ _ _); k_dflt ((refine' Spec.useV (char_none cA (char_spec (st := stA1) hT o1 o2 o3 o4)) ?B ?F ?X ?N ?T ?hk ?hd ?hu ?_); (case B => k_asm); (case F => k_asm); (case X => k_asm); (case T => k_asm); (case hk => first | exact rfl | assumption); (case N => first | k_asm | exact News.tl (by k_asm) | exact News.tl (News.tl (by k_asm)) | exact News.tl (News.tl (News.tl (by k_asm)))); (case hd => ktr_room); (case hu => ktr_units); intro n' h' tk' hC hle' F' N'; (clear hT); (unfold LedIs at hC); (try dsimp only); (try k_fold)))
  k_with "getAttr ref" => ((with_reducible show wpAny _ _ (getAttr (Value.ref xA) (Str.ofString "errors") _) _ _ _); k_dflt (refine g_errors hC (by k_asm) (by k_asm) (by k_asm) ?_); intro _ hE1)
  k_with "getAttr ref" => ((with_reducible show wpAny _ _ (getAttr (Value.ref xB) (Str.ofString "errors") _) _ _ _); k_dflt (refine g_errors hKB (by k_asm) (by k_asm) (News.sub (by k_asm) (fun z hz => LedR.mem_rest hC (.tail _ hz))) ?_); intro _ hE2)
  k_with "binaryOp Add ref ref" => ((obtain ⟨ev, ep, hm1, hs1⟩ := e_list hKB hE2); (with_reducible rename Fr _ _ _ _ => F9); (with_reducible rename News _ _ _ _ => N9); k_dflt (refine add_reps F9 N9 (News.isList N9 (LedR.mem_rest hC (.head _))) (News.isList N9 (LedR.mem_rest hC (.tail _ hm1))) hS' hs1 hcn o9 ?_); (clear F9 N9 hm1 hs1); intro D3 h' F' N' l3 hR3)
  k_with "compareOp NotEq ref ref" => ((obtain ⟨ev, ep, hm1, hs1⟩ := e_list hC hE1); (with_reducible rename News _ _ _ _ => N9); k_dflt (refine ne_rep_no (v := sInv) (News.isList N9 (.tail _ hm1)) (News.isList N9 (.head _)) hs1 hR3 (by decide +kernel) (by ke_room) herr ?_); (clear hm1 hs1))
  k_with "call builtin:str.join" => (k_dflt (refine join_sg of_empty (News.isList (by k_asm) (.head _)) hSm hl100 ?_); intro t' k')
  k_with "compareOp Eq str str" => ((with_reducible show wpAny _ _ (compareOp CmpOp.Eq (Value.str (S _) _) (Value.str (S _) _)) _ _ _); k_dflt (refine eq_yes hread ?_))
  k_with "call ref" => ((with_reducible show wpAny _ _ (call (Value.ref 91) _) _ _ _); k_dflt ((refine' Spec.usePos (position_spec stA2.off hC q5 q3) eA ?B ?F ?X ?N ?T ?hk ?hd ?hu ?_); (case B => k_asm); (case F => k_asm); (case X => k_asm); (case T => k_asm); (case hk => first | exact rfl | assumption); (case N => first | k_asm | exact News.tl (by k_asm) | exact News.tl (News.tl (by k_asm)) | exact News.tl (News.tl (News.tl (by k_asm)))); (case hd => ktr_room); (case hu => ktr_units); intro DA ta1 ta2 h' tk' hltA hle' F' N'; (try k_lt hltA); (try dsimp only); (try k_fold)))
  k_with "call ref" => ((with_reducible show wpAny _ _ (call (Value.ref 157) _) _ _ _); k_dflt ((refine' Spec.usePos (counted_spec (norm R) (le3 hlR rfl) ?hgm hS) rfl ?B ?F ?X ?N ?T ?hk ?hd ?hu ?_); (case B => k_asm); (case F => k_asm); (case X => k_asm); (case T => k_asm); (case hk => first | exact rfl | assumption); (case N => first | k_asm | exact News.tl (by k_asm) | exact News.tl (News.tl (by k_asm)) | exact News.tl (News.tl (News.tl (by k_asm)))); (case hd => ktr_room); (case hu => ktr_units); (case hgm => exact .tail _ (LedR.mem_rest hC (.tail _ (LedR.mem_rest hKB hg)))); intro DZ tz1 tz2 h' tk' hltZ hle' F' N'; (try k_lt hltZ); (try dsimp only); (try k_fold)))
  k_with "compareOp Eq ref ref" => (k_here; (with_reducible show wpAny _ _ (compareOp CmpOp.Eq (Value.ref _) (Value.ref _)) _ _ _); k_dflt (refine' eq_tup2_yes ?epN ?epa ?epb ?epu ?ep1 ?ep2 ?_; (case epN => k_asm); (case epa => exact .tail _ (.head _)); (case epb => exact .head _); (case epu => ke_room); (case ep1 => rfl); (case ep2 => rfl); k_whole))
  k_steps
  all_goals exact hret _ _ _ _ (by assumption) (by assumption)
end
section
variable {w : World} {mean : ExcName → Option Value} {mg mb : Str → Option Value} {news : List (Addr × Obj)} {l Ds Dg : Addr} {es ss gs : List Value} {nn n1 ng : Nat} {ns : List Int} {vc : Value} {R : List Nat} {k : Nat} {tk : Tok}
set_option maxRecDepth 100000 in
set_option maxHeartbeats 4000000 in
theorem s1 (hn : news = [(l, W.listOf es.toArray nn)]) (hIt : IntsAre es (nums5 ns)) (hR : raw5 ns = R)
    (bd : Stmt) (tl : List Stmt) (sc : Scope) (hb : lawB.drop 1 = bd :: tl) (hs : lawSc = sc)
    (dp un : Nat) (gd : Option (List Code)) (a : Addr) (ccd : Value) (cl : List (Str × Addr)) (outer : List Env) (A₀ : Around) (base h₀ : Heap) (L : Addr) (s : Shared) (Q : Flow → Shared → Prop) (E : Value → Shared → Prop)
    (B : Below A₀ base outer h₀) (F : Fr h₀ L s.heap (fun y => if y = Str.ofString "numbers" then some (.ref l) else List.lookup y [(Str.ofString "script", vc)].reverse))
    (X : (hd05.heap_39 w.params).In h₀) (N : News h₀ L s.heap news) (T : Top hd05.view_39 loose mean mg mb h₀) (hd : dp + 100 < recursionLimit) (hu : un + 800 < cLine) (hE : PassesOwn (model PySem.Challenge.pw_te0074_05 w) (ktrTop dp un gd (Str.ofString "law") sc L a ccd cl outer) (envOf (Str.ofString "law") sc L a ccd) E)
    (hret : ∀ h' tk' Ds ss n1, StrsAre ss ((spell R).map S) → Fr h₀ L h' (fun y => if y = Str.ofString "spelled" then some (.ref Ds) else if y = Str.ofString "numbers" then some (.ref l) else List.lookup y [(Str.ofString "script", vc)].reverse) → News h₀ L h' [(Ds, W.listOf (List.toArray ss) n1), (l, W.listOf es.toArray nn)] → Q .next { s with heap := h', toks := tk' }) :
    wpAny (model PySem.Challenge.pw_te0074_05 w) (ktrTop dp un gd (Str.ofString "law") sc L a ccd cl outer) (exec bd (envOf (Str.ofString "law") sc L a ccd)) Q E s := by
  conv at hb => lhs; whnf
  conv at hs => lhs; whnf
  cases hb
  subst hs
  subst hn
  have hnl5 := nums5_len ns
  have hel := IntsAre.length hIt
  k_with_none
  k_with "tb" => (first | assumption | (apply le3; assumption; exact rfl) | lia | (simp only [List.length_append, List.length_cons, List.length_nil, List.length_take, List.length_drop, List.length_dropLast, crs_len, partOf_len] at *; lia) | ((with_reducible refine Nat.le_trans (crlf_len _) ?_); tb_start) | ((with_reducible refine Nat.le_trans (split_len _) ?_); tb_start) | ((with_reducible refine Nat.le_trans (norm_len _) ?_); tb_start))
  k_with "call builtin:str.count" => (refine count4 (by decide +kernel) (by first | assumption | lia) ?_)
  k_with "call builtin:str.rfind" => (refine rfind4 (by decide +kernel) (by first | assumption | lia) ?_)
  k_with "call builtin:str.replace" => ((try dsimp only at *); k_dflt (refine repl_crlf_S (by decide +kernel) (by decide +kernel) (by k_ne) (by k_ne) (by k_ne) (by tb_start) ?_); intro _ _ _)
  k_with "call builtin:str.replace" => ((try dsimp only at *); k_dflt (refine repl_cr_S (by decide +kernel) (by decide +kernel) (by k_ne) (by k_ne) (by k_ne) (by tb_start) ?_); intro _ _ _)
  k_with "call builtin:len" => ((with_reducible show wpAny _ _ (call (Value.builtin "len") [Value.str (S _) _]) _ _ _); refine len_S (by tb_start) ?_)
  k_with "call builtin:ord" => ((with_reducible show wpAny _ _ (call (Value.builtin "ord") [Value.str (S _) _]) _ _ _); refine ord_S ?_)
  k_with "binaryOp Add str str" => ((with_reducible show wpAny _ _ (binaryOp Operator.Add (Value.str (S _) _) (Value.str (S _) _)) _ _ _); refine add_S (by tb_start) ?_; intro _ _)
  k_with "inplaceOp Add str str" => ((with_reducible show wpAny _ _ (inplaceOp Operator.Add (Value.str (S _) _) (Value.str (S _) _)) _ _ _); refine iadd_S (by tb_start) ?_; intro _ _)
  k_with "truthy str" => ((with_reducible show wpAny _ _ (truthy (Value.str (S _) _)) _ _ _); refine truthy_S (by tb_start) ?_)
  k_with "compareOp Eq str str" => ((with_reducible show wpAny _ _ (compareOp CmpOp.Eq (Value.str (S _) _) (Value.str (S _) _)) _ _ _); refine eq_S ?_)
  k_with "compareOp NotEq str str" => ((with_reducible show wpAny _ _ (compareOp CmpOp.NotEq (Value.str (S _) _) (Value.str (S _) _)) _ _ _); refine ne_S ?_)
  k_with "subscriptTail Name Slice str ref" => (k_here; (with_reducible rename Fr _ _ _ _ => F'); (with_reducible rename News _ _ _ _ => N'); k_dflt (refine drop_S (s := ⟨_, _, _, _, _⟩) F' N' (by tb_start) ?_); intro _ _ _ _ _; (try k_sweep))
  k_with "subscriptTail Name Slice str ref" => (k_here; (with_reducible rename Fr _ _ _ _ => F'); (with_reducible rename News _ _ _ _ => N'); k_dflt (refine take_S (s := ⟨_, _, _, _, _⟩) F' N' (by tb_start) ?_); intro _ _ _ _ _; (try k_sweep))
  k_with "subscriptTail Name Slice str ref" => (k_here; (with_reducible rename Fr _ _ _ _ => F'); (with_reducible rename News _ _ _ _ => N'); k_dflt (refine mid_S (s := ⟨_, _, _, _, _⟩) F' N' (by tb_start) ?_); intro _ _ _ _ _; (try k_sweep))
  k_with "subscriptTail Name Slice str ref" => (k_here; (with_reducible rename Fr _ _ _ _ => F'); (with_reducible rename News _ _ _ _ => N'); k_dflt (refine part_S (s := ⟨_, _, _, _, _⟩) F' N' (by tb_start) ?_); intro _ _ _ _ _; (try k_sweep))
  k_with "subscriptTail Name Slice str ref" => (k_here; (with_reducible rename Fr _ _ _ _ => F'); (with_reducible rename News _ _ _ _ => N'); k_dflt (refine init_S (s := ⟨_, _, _, _, _⟩) F' N' (by tb_start) ?_); intro _ _ _ _ _; (try k_sweep))
  k_with "subscriptTail Name UnaryOp str int" => (k_here; (with_reducible show wpAny _ _ (subscriptTail _ _ (Value.str (S _) _) (Value.int _ _)) _ _ _); k_dflt (first | (refine last_S (by first | assumption | (intro hz; simp only [hz, List.length_nil] at *; lia)) (by tb_start) ?_) | (refine item_S (by first | assumption | lia | k_extra "my item") (by tb_start) ?_)))
  k_with "subscriptTail Name Name str int" => (k_here; (with_reducible show wpAny _ _ (subscriptTail _ _ (Value.str (S _) _) (Value.int _ _)) _ _ _); first | (with_reducible refine item_S (by k_dflt (first | assumption | lia | k_extra "my item")) (by k_dflt tb_start) ?_) | k_dflt (refine item_Si (by lia) (by first | lia | k_extra "my item") (by tb_start) ?_))
  k_with "subscriptTail Name Constant str int" => (k_here; (with_reducible show wpAny _ _ (subscriptTail _ _ (Value.str (S _) _) (Value.int _ _)) _ _ _); first | (with_reducible refine item_S (by k_dflt (first | assumption | lia | k_extra "my item")) (by k_dflt tb_start) ?_) | k_dflt (refine item_Si (by lia) (by first | lia | k_extra "my item") (by tb_start) ?_))
  k_with "subscriptTail Name BinOp str int" => (k_here; (with_reducible show wpAny _ _ (subscriptTail _ _ (Value.str (S _) _) (Value.int _ _)) _ _ _); first | (with_reducible refine item_S (by k_dflt (first | assumption | lia | k_extra "my item")) (by k_dflt tb_start) ?_) | k_dflt (refine item_Si (by lia) (by first | lia | k_extra "my item") (by tb_start) ?_))
  k_with "subscriptTail Attribute Name str int" => (k_here; (with_reducible show wpAny _ _ (subscriptTail _ _ (Value.str (S _) _) (Value.int _ _)) _ _ _); first | (with_reducible refine item_S (by k_dflt (first | assumption | lia | k_extra "my item")) (by k_dflt tb_start) ?_) | k_dflt (refine item_Si (by lia) (by first | lia | k_extra "my item") (by tb_start) ?_))
  k_with "subscriptTail Attribute Constant str int" => (k_here; (with_reducible show wpAny _ _ (subscriptTail _ _ (Value.str (S _) _) (Value.int _ _)) _ _ _); first | (with_reducible refine item_S (by k_dflt (first | assumption | lia | k_extra "my item")) (by k_dflt tb_start) ?_) | k_dflt (refine item_Si (by lia) (by first | lia | k_extra "my item") (by tb_start) ?_))
  k_with "subscriptTail Attribute Attribute str int" => (k_here; (with_reducible show wpAny _ _ (subscriptTail _ _ (Value.str (S _) _) (Value.int _ _)) _ _ _); first | (with_reducible refine item_S (by k_dflt (first | assumption | lia | k_extra "my item")) (by k_dflt tb_start) ?_) | k_dflt (refine item_Si (by lia) (by first | lia | k_extra "my item") (by tb_start) ?_))
  k_with "truthy ref" => (k_here; k_dflt (refine' truthy_meth ?N ?q ?_; (case N => k_asm); (case q => k_mem); k_whole))
  k_with "exec For Name Name cons nil" => (k_here; (with_reducible rename Fr _ _ _ _ => lF'); k_dflt (refine' For_invVF lF' ?k1 ?k2 ?_; (case k1 => exact rfl); (case k2 => exact rfl); k_whole))
  k_with "exec For Name Subscript cons nil" => (k_here; (with_reducible rename Fr _ _ _ _ => lF'); k_dflt (refine' For_invVF lF' ?k1 ?k2 ?_; (case k1 => exact rfl); (case k2 => exact rfl); k_whole))
  k_with "all" => (refine List.forall_mem_append.mpr ⟨?a, ?b⟩; (case a => k_all); (case b => k_all))
  k_with "rel" => (simp only [List.size_toArray]; rw [PySem.sizeLine_eq]; lia)
  k_with "call builtin:list.append" => (k_here; (with_reducible show wpAny _ _ (call (Value.builtin _) [Value.ref _, _]) _ _ _); k_dflt (refine' append_K ?k1 ?k2 ?k3 ?_ ?z; (case k1 => k_asm); (case k2 => k_asm); (case k3 => k_upd); (case z => tb_rel); k_whole); intro h' F' N'; (try simp only [List.push_toArray] at N'); (try k_sweep))
  k_with "enter" => (refine' code_def ?k1 ?k2 ?k3 ?k4 ?k5 ?kA ?kF ?kK ?k6 ?k7 ?k8 ?k9 ?kB ?_ ?c2 ?c3 ?c4 ?c5; (case kA => exact rfl); (case kF => exact rfl); (case kK => assumption); (case k1 => k_asm); (case k2 => k_asm); (case k3 => k_asm); (case k4 => k_asm); (case k5 => k_asm); (case k6 => k_is); (case k7 => k_is); (case k8 => ktr_room); (case k9 => first | exact BindsTo.of_eq rfl | exact binds_K (by k_in) rfl (by k_is) rfl rfl rfl); (case c5 => decide); (case kB => exact locs rfl); (case c2 => exact rfl); (case c3 => exact rfl); (case c4 => exact rfl); k_whole; intro g' L' h' FG' F' N' B' X' T'; (try dsimp only); (try k_lift B'); (try k_fold))
  k_with "JoinP" => (dsimp only [JoinP])
  k_with "subscriptTail" => (k_here; (with_reducible show wpAny _ _ (subscriptTail _ _ (Value.str (S _) _) (Value.int _ _)) _ _ _); first | (with_reducible refine item_S (by k_dflt (first | assumption | lia | k_extra "my item")) (by k_dflt tb_start) ?_) | k_dflt (refine item_Si (by lia) (by first | lia | k_extra "my item") (by tb_start) ?_))
  k_with "compareOp Eq str str" => ((with_reducible show wpAny _ _ (compareOp CmpOp.Eq (Value.str (S _) _) (Value.str (Str.ofString _) _)) _ _ _); k_dflt (first | refine eq_lit [13] (by decide +kernel) ?_ | refine eq_lit [10] (by decide +kernel) ?_))
  k_with "compareOp NotEq str str" => ((with_reducible show wpAny _ _ (compareOp CmpOp.NotEq (Value.str (S _) _) (Value.str (Str.ofString _) _)) _ _ _); k_dflt (first | refine ne_lit [13] (by decide +kernel) ?_ | refine ne_lit [10] (by decide +kernel) ?_))
  k_with "inplaceOp Add str str" => ((with_reducible show wpAny _ _ (inplaceOp Operator.Add (Value.str (S _) _) (Value.str (Str.ofString _) _)) _ _ _); k_dflt (refine iadd_lit [10] (by decide +kernel) (by tb_start) ?_); intro _ _)
  k_with "room" => (k_dflt ((first | apply room4 | apply room3 | apply room2 | apply room1 | apply room0 | apply roomz); assumption; exact rfl))
  k_with "eval ListComp" => ((with_reducible show wpAny _ _ (eval (Expr.ListComp (Expr.Subscript _ _ _) _ _ _) _) _ _ _); k_dflt (refine LCg.ListComp_U (F₀ := by k_asm) (by with_unfolding_all rfl) (by decide) (by rfl) (by decide) (by rfl) ?_))
  repeat' ((fail_if_success (with_reducible show LCg.CompSrc _ _ _ _ _ _ _ _ _ _ _ _ _ _)); first | (k_unfold; (try dsimp only)) | (k_end; wrow_close) | walk1 | (dsimp only; walk1) | (leave1; try dsimp only))
  k_dflt (refine LCg.CompSrc.ledger (by rfl) (by k_asm) (by k_asm) (.head _) (by rw [List.size_toArray, hel, PySem.sizeLine_eq]; lia) ?_); intro g'
  k_dflt (refine rest_inv (fun i ys nw => nw = _ ∧ StrsAre ys (((nums5 ns).take i).map fun n => S (sgn5 n))) ⟨rfl, .nil⟩ ?ca ?cb)
  case ca =>
    intro i v ys nw I oI C oC D m₂ h tk E' hi hP hJ hC hx F' N' off ne
    obtain ⟨rfl, hS⟩ := hJ
    obtain ⟨k, t, rfl, hk⟩ := IntsAre.at hIt i v (by simpa using hP)
    (try simp only [LCg.Off3, and_true] at off)
    (try k_fold)
    k_steps
    rw [sgn5_str, map_take (l := nums5 ns) _ hk]
    exact kct_snoc hS
  case cb =>
    rintro ys nw ⟨rfl, hS⟩
    have hlt : ∀ m : Nat, m = (nums5 ns).length → (nums5 ns).take m = nums5 ns := fun m h => by rw [h, List.take_length]
    rw [hlt _ (by rw [List.size_toArray]; exact hel)] at hS
    rw [sgn5_map] at hS
    have hrl := raw5_len ns
    rw [hR] at hrl
    have hR' : ((nums5 ns).map sgn5).flatten = R := hR
    k_with "call builtin:str.join" => (k_dflt (refine join_S (ls := (nums5 ns).map sgn5) hR' of_empty (News.isList (by k_asm) (.head _)) hS (by rw [List.length_map]; exact Nat.le_trans hnl5 (by decide)) (fun l hl => by obtain ⟨z, _, rfl⟩ := List.mem_map.mp hl; exact Nat.le_trans (sgn5_len z) (by decide)) ?_); intro t' k')
    k_with "call ref" => ((with_reducible show wpAny _ _ (call (Value.ref 150) _) _ _ _); k_dflt ((refine' Spec.useList (spelled_spec _ _ (le3 hrl rfl) _) ?B ?F ?X ?N ?T ?hk ?hd ?hu ?_); (case B => k_asm); (case F => k_asm); (case X => k_asm); (case T => k_asm); (case hk => first | exact rfl | assumption); (case N => first | k_asm | exact News.tl (by k_asm) | exact News.tl (News.tl (by k_asm)) | exact News.tl (News.tl (News.tl (by k_asm)))); (case hd => ktr_room); (case hu => ktr_units); intro D8 gs8 ng8 h' tk' hlt' hS8 hle' F' N'; (try k_lt hlt'); (try dsimp only); (try k_fold)))
    (try k_fold)
    k_steps
    all_goals (
      rename Fr _ _ _ _ => F9
      rename News _ _ _ _ => N9
      exact hret _ _ _ _ _ hS8 F9 (by first | exact N9 | exact News.dr N9))
set_option maxRecDepth 100000 in
set_option maxHeartbeats 4000000 in
theorem s2 (hn : news = [(Ds, W.listOf ss.toArray n1), (l, W.listOf es.toArray nn)]) (hS : StrsAre ss ((spell R).map S)) (hRl : R.length ≤ 28)
    (bd : Stmt) (tl : List Stmt) (sc : Scope) (hb : lawB.drop 2 = bd :: tl) (hs : lawSc = sc)
    (dp un : Nat) (gd : Option (List Code)) (a : Addr) (ccd : Value) (cl : List (Str × Addr)) (outer : List Env) (A₀ : Around) (base h₀ : Heap) (L : Addr) (s : Shared) (Q : Flow → Shared → Prop) (E : Value → Shared → Prop)
    (B : Below A₀ base outer h₀) (F : Fr h₀ L s.heap (fun y => if y = Str.ofString "spelled" then some (.ref Ds) else if y = Str.ofString "numbers" then some (.ref l) else List.lookup y [(Str.ofString "script", vc)].reverse))
    (X : (hd05.heap_39 w.params).In h₀) (N : News h₀ L s.heap news) (T : Top hd05.view_39 loose mean mg mb h₀) (hd : dp + 100 < recursionLimit) (hu : un + 800 < cLine) (hE : PassesOwn (model PySem.Challenge.pw_te0074_05 w) (ktrTop dp un gd (Str.ofString "law") sc L a ccd cl outer) (envOf (Str.ofString "law") sc L a ccd) E)
    (hret : ∀ h' tk' Dg gs ng, StrsAre gs (sg (norm R)) → Fr h₀ L h' (fun y => if y = Str.ofString "signs" then some (.ref Dg) else if y = Str.ofString "spelled" then some (.ref Ds) else if y = Str.ofString "numbers" then some (.ref l) else List.lookup y [(Str.ofString "script", vc)].reverse) → News h₀ L h' [(Dg, W.listOf (List.toArray gs) ng), (Ds, W.listOf ss.toArray n1), (l, W.listOf es.toArray nn)] → Q .next { s with heap := h', toks := tk' }) :
    wpAny (model PySem.Challenge.pw_te0074_05 w) (ktrTop dp un gd (Str.ofString "law") sc L a ccd cl outer) (exec bd (envOf (Str.ofString "law") sc L a ccd)) Q E s := by
  conv at hb => lhs; whnf
  conv at hs => lhs; whnf
  cases hb
  subst hs
  subst hn
  have hsl := StrsAre.length hS
  rw [List.length_map] at hsl
  have hnl : (spell R).length ≤ 28 := by rw [spell_len]; exact Nat.le_trans (norm_len R) hRl
  have es1 : Str.ofString "\x0d" = S [13] := by decide +kernel
  have es2 : Str.ofString "\x0d\n" = S [13, 10] := by decide +kernel
  k_with_none
  k_with "tb" => (first | assumption | (apply le3; assumption; exact rfl) | lia | (simp only [List.length_append, List.length_cons, List.length_nil, List.length_take, List.length_drop, List.length_dropLast, crs_len, partOf_len] at *; lia) | ((with_reducible refine Nat.le_trans (crlf_len _) ?_); tb_start) | ((with_reducible refine Nat.le_trans (split_len _) ?_); tb_start) | ((with_reducible refine Nat.le_trans (norm_len _) ?_); tb_start))
  k_with "call builtin:str.count" => (refine count4 (by decide +kernel) (by first | assumption | lia) ?_)
  k_with "call builtin:str.rfind" => (refine rfind4 (by decide +kernel) (by first | assumption | lia) ?_)
  k_with "call builtin:str.replace" => ((try dsimp only at *); k_dflt (refine repl_crlf_S (by decide +kernel) (by decide +kernel) (by k_ne) (by k_ne) (by k_ne) (by tb_start) ?_); intro _ _ _)
  k_with "call builtin:str.replace" => ((try dsimp only at *); k_dflt (refine repl_cr_S (by decide +kernel) (by decide +kernel) (by k_ne) (by k_ne) (by k_ne) (by tb_start) ?_); intro _ _ _)
  k_with "call builtin:len" => ((with_reducible show wpAny _ _ (call (Value.builtin "len") [Value.str (S _) _]) _ _ _); refine len_S (by tb_start) ?_)
  k_with "call builtin:ord" => ((with_reducible show wpAny _ _ (call (Value.builtin "ord") [Value.str (S _) _]) _ _ _); refine ord_S ?_)
  k_with "binaryOp Add str str" => ((with_reducible show wpAny _ _ (binaryOp Operator.Add (Value.str (S _) _) (Value.str (S _) _)) _ _ _); refine add_S (by tb_start) ?_; intro _ _)
  k_with "inplaceOp Add str str" => ((with_reducible show wpAny _ _ (inplaceOp Operator.Add (Value.str (S _) _) (Value.str (S _) _)) _ _ _); refine iadd_S (by tb_start) ?_; intro _ _)
  k_with "truthy str" => ((with_reducible show wpAny _ _ (truthy (Value.str (S _) _)) _ _ _); refine truthy_S (by tb_start) ?_)
  k_with "compareOp Eq str str" => ((with_reducible show wpAny _ _ (compareOp CmpOp.Eq (Value.str (S _) _) (Value.str (S _) _)) _ _ _); refine eq_S ?_)
  k_with "compareOp NotEq str str" => ((with_reducible show wpAny _ _ (compareOp CmpOp.NotEq (Value.str (S _) _) (Value.str (S _) _)) _ _ _); refine ne_S ?_)
  k_with "subscriptTail Name Slice str ref" => (k_here; (with_reducible rename Fr _ _ _ _ => F'); (with_reducible rename News _ _ _ _ => N'); k_dflt (refine drop_S (s := ⟨_, _, _, _, _⟩) F' N' (by tb_start) ?_); intro _ _ _ _ _; (try k_sweep))
  k_with "subscriptTail Name Slice str ref" => (k_here; (with_reducible rename Fr _ _ _ _ => F'); (with_reducible rename News _ _ _ _ => N'); k_dflt (refine take_S (s := ⟨_, _, _, _, _⟩) F' N' (by tb_start) ?_); intro _ _ _ _ _; (try k_sweep))
  k_with "subscriptTail Name Slice str ref" => (k_here; (with_reducible rename Fr _ _ _ _ => F'); (with_reducible rename News _ _ _ _ => N'); k_dflt (refine mid_S (s := ⟨_, _, _, _, _⟩) F' N' (by tb_start) ?_); intro _ _ _ _ _; (try k_sweep))
  k_with "subscriptTail Name Slice str ref" => (k_here; (with_reducible rename Fr _ _ _ _ => F'); (with_reducible rename News _ _ _ _ => N'); k_dflt (refine part_S (s := ⟨_, _, _, _, _⟩) F' N' (by tb_start) ?_); intro _ _ _ _ _; (try k_sweep))
  k_with "subscriptTail Name Slice str ref" => (k_here; (with_reducible rename Fr _ _ _ _ => F'); (with_reducible rename News _ _ _ _ => N'); k_dflt (refine init_S (s := ⟨_, _, _, _, _⟩) F' N' (by tb_start) ?_); intro _ _ _ _ _; (try k_sweep))
  k_with "subscriptTail Name UnaryOp str int" => (k_here; (with_reducible show wpAny _ _ (subscriptTail _ _ (Value.str (S _) _) (Value.int _ _)) _ _ _); k_dflt (first | (refine last_S (by first | assumption | (intro hz; simp only [hz, List.length_nil] at *; lia)) (by tb_start) ?_) | (refine item_S (by first | assumption | lia | k_extra "my item") (by tb_start) ?_)))
  k_with "subscriptTail Name Name str int" => (k_here; (with_reducible show wpAny _ _ (subscriptTail _ _ (Value.str (S _) _) (Value.int _ _)) _ _ _); first | (with_reducible refine item_S (by k_dflt (first | assumption | lia | k_extra "my item")) (by k_dflt tb_start) ?_) | k_dflt (refine item_Si (by lia) (by first | lia | k_extra "my item") (by tb_start) ?_))
  k_with "subscriptTail Name Constant str int" => (k_here; (with_reducible show wpAny _ _ (subscriptTail _ _ (Value.str (S _) _) (Value.int _ _)) _ _ _); first | (with_reducible refine item_S (by k_dflt (first | assumption | lia | k_extra "my item")) (by k_dflt tb_start) ?_) | k_dflt (refine item_Si (by lia) (by first | lia | k_extra "my item") (by tb_start) ?_))
  k_with "subscriptTail Name BinOp str int" => (k_here; (with_reducible show wpAny _ _ (subscriptTail _ _ (Value.str (S _) _) (Value.int _ _)) _ _ _); first | (with_reducible refine item_S (by k_dflt (first | assumption | lia | k_extra "my item")) (by k_dflt tb_start) ?_) | k_dflt (refine item_Si (by lia) (by first | lia | k_extra "my item") (by tb_start) ?_))
  k_with "subscriptTail Attribute Name str int" => (k_here; (with_reducible show wpAny _ _ (subscriptTail _ _ (Value.str (S _) _) (Value.int _ _)) _ _ _); first | (with_reducible refine item_S (by k_dflt (first | assumption | lia | k_extra "my item")) (by k_dflt tb_start) ?_) | k_dflt (refine item_Si (by lia) (by first | lia | k_extra "my item") (by tb_start) ?_))
  k_with "subscriptTail Attribute Constant str int" => (k_here; (with_reducible show wpAny _ _ (subscriptTail _ _ (Value.str (S _) _) (Value.int _ _)) _ _ _); first | (with_reducible refine item_S (by k_dflt (first | assumption | lia | k_extra "my item")) (by k_dflt tb_start) ?_) | k_dflt (refine item_Si (by lia) (by first | lia | k_extra "my item") (by tb_start) ?_))
  k_with "subscriptTail Attribute Attribute str int" => (k_here; (with_reducible show wpAny _ _ (subscriptTail _ _ (Value.str (S _) _) (Value.int _ _)) _ _ _); first | (with_reducible refine item_S (by k_dflt (first | assumption | lia | k_extra "my item")) (by k_dflt tb_start) ?_) | k_dflt (refine item_Si (by lia) (by first | lia | k_extra "my item") (by tb_start) ?_))
  k_with "truthy ref" => (k_here; k_dflt (refine' truthy_meth ?N ?q ?_; (case N => k_asm); (case q => k_mem); k_whole))
  k_with "exec For Name Name cons nil" => (k_here; (with_reducible rename Fr _ _ _ _ => lF'); k_dflt (refine' For_invVF lF' ?k1 ?k2 ?_; (case k1 => exact rfl); (case k2 => exact rfl); k_whole))
  k_with "exec For Name Subscript cons nil" => (k_here; (with_reducible rename Fr _ _ _ _ => lF'); k_dflt (refine' For_invVF lF' ?k1 ?k2 ?_; (case k1 => exact rfl); (case k2 => exact rfl); k_whole))
  k_with "all" => (refine List.forall_mem_append.mpr ⟨?a, ?b⟩; (case a => k_all); (case b => k_all))
  k_with "rel" => (simp only [List.size_toArray]; rw [PySem.sizeLine_eq]; lia)
  k_with "call builtin:list.append" => (k_here; (with_reducible show wpAny _ _ (call (Value.builtin _) [Value.ref _, _]) _ _ _); k_dflt (refine' append_K ?k1 ?k2 ?k3 ?_ ?z; (case k1 => k_asm); (case k2 => k_asm); (case k3 => k_upd); (case z => tb_rel); k_whole); intro h' F' N'; (try simp only [List.push_toArray] at N'); (try k_sweep))
  k_with "enter" => (refine' code_def ?k1 ?k2 ?k3 ?k4 ?k5 ?kA ?kF ?kK ?k6 ?k7 ?k8 ?k9 ?kB ?_ ?c2 ?c3 ?c4 ?c5; (case kA => exact rfl); (case kF => exact rfl); (case kK => assumption); (case k1 => k_asm); (case k2 => k_asm); (case k3 => k_asm); (case k4 => k_asm); (case k5 => k_asm); (case k6 => k_is); (case k7 => k_is); (case k8 => ktr_room); (case k9 => first | exact BindsTo.of_eq rfl | exact binds_K (by k_in) rfl (by k_is) rfl rfl rfl); (case c5 => decide); (case kB => exact locs rfl); (case c2 => exact rfl); (case c3 => exact rfl); (case c4 => exact rfl); k_whole; intro g' L' h' FG' F' N' B' X' T'; (try dsimp only); (try k_lift B'); (try k_fold))
  k_with "JoinP" => (dsimp only [JoinP])
  k_with "subscriptTail" => (k_here; (with_reducible show wpAny _ _ (subscriptTail _ _ (Value.str (S _) _) (Value.int _ _)) _ _ _); first | (with_reducible refine item_S (by k_dflt (first | assumption | lia | k_extra "my item")) (by k_dflt tb_start) ?_) | k_dflt (refine item_Si (by lia) (by first | lia | k_extra "my item") (by tb_start) ?_))
  k_with "compareOp Eq str str" => ((with_reducible show wpAny _ _ (compareOp CmpOp.Eq (Value.str (S _) _) (Value.str (Str.ofString _) _)) _ _ _); k_dflt (first | refine eq_lit [13] (by decide +kernel) ?_ | refine eq_lit [10] (by decide +kernel) ?_))
  k_with "compareOp NotEq str str" => ((with_reducible show wpAny _ _ (compareOp CmpOp.NotEq (Value.str (S _) _) (Value.str (Str.ofString _) _)) _ _ _); k_dflt (first | refine ne_lit [13] (by decide +kernel) ?_ | refine ne_lit [10] (by decide +kernel) ?_))
  k_with "inplaceOp Add str str" => ((with_reducible show wpAny _ _ (inplaceOp Operator.Add (Value.str (S _) _) (Value.str (Str.ofString _) _)) _ _ _); k_dflt (refine iadd_lit [10] (by decide +kernel) (by tb_start) ?_); intro _ _)
  k_with "room" => (k_dflt ((first | apply room4 | apply room3 | apply room2 | apply room1 | apply room0 | apply roomz); assumption; exact rfl))
  k_with "exec Assign cons ListComp" => (k_dflt (refine LCg.Assign_ListComp_U (F₀ := by k_asm) (by rfl) (by with_unfolding_all rfl) (by with_unfolding_all rfl) (by decide) (by rfl) (by decide) (by rfl) (by rfl) (by rfl) ?_))
  repeat' ((fail_if_success (with_reducible show LCg.CompSrc _ _ _ _ _ _ _ _ _ _ _ _ _ _)); first | (k_unfold; (try dsimp only)) | (k_end; wrow_close) | walk1 | (dsimp only; walk1) | (leave1; try dsimp only))
  k_dflt (refine LCg.CompSrc.ledger (by rfl) (by k_asm) (by k_asm) (.head _) (by rw [List.size_toArray, hsl, PySem.sizeLine_eq]; lia) ?_); intro g'
  k_dflt (refine rest_inv (fun i ys nw => nw = _ ∧ StrsAre ys (((spell R).take i).map fun z => S [hd5 z])) ⟨rfl, .nil⟩ ?ca ?cb)
  case ca =>
    intro i v ys nw I oI C oC D m₂ h tk E' hi hP hJ hC hx F' N' off ne
    obtain ⟨rfl, hS9⟩ := hJ
    obtain ⟨z, hz⟩ : ∃ z, (spell R)[i]? = some z := ⟨_, List.getElem?_eq_getElem (by rw [← hsl]; simpa using hi)⟩
    obtain ⟨tz, hv⟩ := StrsAre.at hS (show ((spell R).map S)[i]? = some (S z) by rw [List.getElem?_map, hz]; rfl)
    have hP' : ss[i]? = some v := by simpa using hP
    rw [hP'] at hv
    obtain rfl := Option.some.inj hv
    have htk : ((spell R).take (i + 1)).map (fun z => S [hd5 z]) = ((spell R).take i).map (fun z => S [hd5 z]) ++ [S [hd5 z]] := by rw [List.take_add_one, hz]; simp
    have hmz := List.mem_of_getElem? hz
    (try k_fold)
    k_with "CompEnd" => ((with_reducible show LCg.CompEnd _ _ _ _ _ _ _ _ _ _ _ _ _ _); (with_reducible rename News _ _ _ _ => N9); (rename (List.any _ _ = _) => hany); (rw [es1, es2] at hany); k_dflt (refine LCg.CompEnd.intro (by assumption) (News.tl N9) _ (fun p hp => hp) (by assumption) (.inr ⟨_, .head _, rfl, _, rfl⟩) ⟨rfl, ?_⟩); first | (rw [htk, hd5_yes hany, ← nl_str]; exact kct_snoc hS9) | (rw [htk, hd5_no (spell_ws R).1 hmz hany]; exact kct_snoc hS9))
    k_steps
  case cb =>
    rintro ys nw ⟨rfl, hS9⟩
    intro D2 h2 tk2 F2 N2 off2
    have e : ((spell R).take ss.toArray.size).map (fun z => S [hd5 z]) = sg (norm R) := by
      rw [List.size_toArray, hsl, List.take_length, spell_norm]
      show _ = ((spell R).map hd5).map _
      rw [List.map_map]
      rfl
    rw [e] at hS9
    exact hret _ _ _ _ _ hS9 F2 N2
set_option maxRecDepth 100000 in
set_option maxHeartbeats 4000000 in
theorem s3 (hn : news = [(Dg, W.listOf gs.toArray ng), (Ds, W.listOf ss.toArray n1), (l, W.listOf es.toArray nn)]) (hIt : IntsAre es (nums5 ns)) (hG : StrsAre gs (sg (norm R))) (hRl : R.length ≤ 28)
    (bd : Stmt) (tl : List Stmt) (sc : Scope) (hb : lawB.drop 3 = bd :: tl) (hs : lawSc = sc)
    (dp un : Nat) (gd : Option (List Code)) (a : Addr) (ccd : Value) (cl : List (Str × Addr)) (outer : List Env) (A₀ : Around) (base h₀ : Heap) (L : Addr) (s : Shared) (Q : Flow → Shared → Prop) (E : Value → Shared → Prop)
    (B : Below A₀ base outer h₀) (F : Fr h₀ L s.heap (fun y => if y = Str.ofString "signs" then some (.ref Dg) else if y = Str.ofString "spelled" then some (.ref Ds) else if y = Str.ofString "numbers" then some (.ref l) else List.lookup y [(Str.ofString "script", vc)].reverse))
    (X : (hd05.heap_39 w.params).In h₀) (N : News h₀ L s.heap news) (T : Top hd05.view_39 loose mean mg mb h₀) (hd : dp + 100 < recursionLimit) (hu : un + 800 < cLine) (hE : PassesOwn (model PySem.Challenge.pw_te0074_05 w) (ktrTop dp un gd (Str.ofString "law") sc L a ccd cl outer) (envOf (Str.ofString "law") sc L a ccd) E)
    (hret : ∀ h' tk' (k : Nat) tk, k ≤ (norm R).length → Fr h₀ L h' (fun y => if y = Str.ofString "cut" then some (.int (k : Int) tk) else if y = Str.ofString "signs" then some (.ref Dg) else if y = Str.ofString "spelled" then some (.ref Ds) else if y = Str.ofString "numbers" then some (.ref l) else List.lookup y [(Str.ofString "script", vc)].reverse) → News h₀ L h' [(Dg, W.listOf gs.toArray ng), (Ds, W.listOf ss.toArray n1), (l, W.listOf es.toArray nn)] → Q .next { s with heap := h', toks := tk' }) :
    wpAny (model PySem.Challenge.pw_te0074_05 w) (ktrTop dp un gd (Str.ofString "law") sc L a ccd cl outer) (exec bd (envOf (Str.ofString "law") sc L a ccd)) Q E s := by
  conv at hb => lhs; whnf
  conv at hs => lhs; whnf
  cases hb
  subst hs
  subst hn
  have hnl : (norm R).length ≤ 28 := Nat.le_trans (norm_len R) hRl
  obtain ⟨k, hk, hkl⟩ := cut5 (n := (nums5 ns).sum) (len := (norm R).length)
  k_with_none
  k_with "tb" => (first | assumption | (apply le3; assumption; exact rfl) | lia | (simp only [List.length_append, List.length_cons, List.length_nil, List.length_take, List.length_drop, List.length_dropLast, crs_len, partOf_len] at *; lia) | ((with_reducible refine Nat.le_trans (crlf_len _) ?_); tb_start) | ((with_reducible refine Nat.le_trans (split_len _) ?_); tb_start) | ((with_reducible refine Nat.le_trans (norm_len _) ?_); tb_start))
  k_with "call builtin:str.count" => (refine count4 (by decide +kernel) (by first | assumption | lia) ?_)
  k_with "call builtin:str.rfind" => (refine rfind4 (by decide +kernel) (by first | assumption | lia) ?_)
  k_with "call builtin:str.replace" => ((try dsimp only at *); k_dflt (refine repl_crlf_S (by decide +kernel) (by decide +kernel) (by k_ne) (by k_ne) (by k_ne) (by tb_start) ?_); intro _ _ _)
  k_with "call builtin:str.replace" => ((try dsimp only at *); k_dflt (refine repl_cr_S (by decide +kernel) (by decide +kernel) (by k_ne) (by k_ne) (by k_ne) (by tb_start) ?_); intro _ _ _)
  k_with "call builtin:len" => ((with_reducible show wpAny _ _ (call (Value.builtin "len") [Value.str (S _) _]) _ _ _); refine len_S (by tb_start) ?_)
  k_with "call builtin:ord" => ((with_reducible show wpAny _ _ (call (Value.builtin "ord") [Value.str (S _) _]) _ _ _); refine ord_S ?_)
  k_with "binaryOp Add str str" => ((with_reducible show wpAny _ _ (binaryOp Operator.Add (Value.str (S _) _) (Value.str (S _) _)) _ _ _); refine add_S (by tb_start) ?_; intro _ _)
  k_with "inplaceOp Add str str" => ((with_reducible show wpAny _ _ (inplaceOp Operator.Add (Value.str (S _) _) (Value.str (S _) _)) _ _ _); refine iadd_S (by tb_start) ?_; intro _ _)
  k_with "truthy str" => ((with_reducible show wpAny _ _ (truthy (Value.str (S _) _)) _ _ _); refine truthy_S (by tb_start) ?_)
  k_with "compareOp Eq str str" => ((with_reducible show wpAny _ _ (compareOp CmpOp.Eq (Value.str (S _) _) (Value.str (S _) _)) _ _ _); refine eq_S ?_)
  k_with "compareOp NotEq str str" => ((with_reducible show wpAny _ _ (compareOp CmpOp.NotEq (Value.str (S _) _) (Value.str (S _) _)) _ _ _); refine ne_S ?_)
  k_with "subscriptTail Name Slice str ref" => (k_here; (with_reducible rename Fr _ _ _ _ => F'); (with_reducible rename News _ _ _ _ => N'); k_dflt (refine drop_S (s := ⟨_, _, _, _, _⟩) F' N' (by tb_start) ?_); intro _ _ _ _ _; (try k_sweep))
  k_with "subscriptTail Name Slice str ref" => (k_here; (with_reducible rename Fr _ _ _ _ => F'); (with_reducible rename News _ _ _ _ => N'); k_dflt (refine take_S (s := ⟨_, _, _, _, _⟩) F' N' (by tb_start) ?_); intro _ _ _ _ _; (try k_sweep))
  k_with "subscriptTail Name Slice str ref" => (k_here; (with_reducible rename Fr _ _ _ _ => F'); (with_reducible rename News _ _ _ _ => N'); k_dflt (refine mid_S (s := ⟨_, _, _, _, _⟩) F' N' (by tb_start) ?_); intro _ _ _ _ _; (try k_sweep))
  k_with "subscriptTail Name Slice str ref" => (k_here; (with_reducible rename Fr _ _ _ _ => F'); (with_reducible rename News _ _ _ _ => N'); k_dflt (refine part_S (s := ⟨_, _, _, _, _⟩) F' N' (by tb_start) ?_); intro _ _ _ _ _; (try k_sweep))
  k_with "subscriptTail Name Slice str ref" => (k_here; (with_reducible rename Fr _ _ _ _ => F'); (with_reducible rename News _ _ _ _ => N'); k_dflt (refine init_S (s := ⟨_, _, _, _, _⟩) F' N' (by tb_start) ?_); intro _ _ _ _ _; (try k_sweep))
  k_with "subscriptTail Name UnaryOp str int" => (k_here; (with_reducible show wpAny _ _ (subscriptTail _ _ (Value.str (S _) _) (Value.int _ _)) _ _ _); k_dflt (first | (refine last_S (by first | assumption | (intro hz; simp only [hz, List.length_nil] at *; lia)) (by tb_start) ?_) | (refine item_S (by first | assumption | lia | k_extra "my item") (by tb_start) ?_)))
  k_with "subscriptTail Name Name str int" => (k_here; (with_reducible show wpAny _ _ (subscriptTail _ _ (Value.str (S _) _) (Value.int _ _)) _ _ _); first | (with_reducible refine item_S (by k_dflt (first | assumption | lia | k_extra "my item")) (by k_dflt tb_start) ?_) | k_dflt (refine item_Si (by lia) (by first | lia | k_extra "my item") (by tb_start) ?_))
  k_with "subscriptTail Name Constant str int" => (k_here; (with_reducible show wpAny _ _ (subscriptTail _ _ (Value.str (S _) _) (Value.int _ _)) _ _ _); first | (with_reducible refine item_S (by k_dflt (first | assumption | lia | k_extra "my item")) (by k_dflt tb_start) ?_) | k_dflt (refine item_Si (by lia) (by first | lia | k_extra "my item") (by tb_start) ?_))
  k_with "subscriptTail Name BinOp str int" => (k_here; (with_reducible show wpAny _ _ (subscriptTail _ _ (Value.str (S _) _) (Value.int _ _)) _ _ _); first | (with_reducible refine item_S (by k_dflt (first | assumption | lia | k_extra "my item")) (by k_dflt tb_start) ?_) | k_dflt (refine item_Si (by lia) (by first | lia | k_extra "my item") (by tb_start) ?_))
  k_with "subscriptTail Attribute Name str int" => (k_here; (with_reducible show wpAny _ _ (subscriptTail _ _ (Value.str (S _) _) (Value.int _ _)) _ _ _); first | (with_reducible refine item_S (by k_dflt (first | assumption | lia | k_extra "my item")) (by k_dflt tb_start) ?_) | k_dflt (refine item_Si (by lia) (by first | lia | k_extra "my item") (by tb_start) ?_))
  k_with "subscriptTail Attribute Constant str int" => (k_here; (with_reducible show wpAny _ _ (subscriptTail _ _ (Value.str (S _) _) (Value.int _ _)) _ _ _); first | (with_reducible refine item_S (by k_dflt (first | assumption | lia | k_extra "my item")) (by k_dflt tb_start) ?_) | k_dflt (refine item_Si (by lia) (by first | lia | k_extra "my item") (by tb_start) ?_))
  k_with "subscriptTail Attribute Attribute str int" => (k_here; (with_reducible show wpAny _ _ (subscriptTail _ _ (Value.str (S _) _) (Value.int _ _)) _ _ _); first | (with_reducible refine item_S (by k_dflt (first | assumption | lia | k_extra "my item")) (by k_dflt tb_start) ?_) | k_dflt (refine item_Si (by lia) (by first | lia | k_extra "my item") (by tb_start) ?_))
  k_with "truthy ref" => (k_here; k_dflt (refine' truthy_meth ?N ?q ?_; (case N => k_asm); (case q => k_mem); k_whole))
  k_with "exec For Name Name cons nil" => (k_here; (with_reducible rename Fr _ _ _ _ => lF'); k_dflt (refine' For_invVF lF' ?k1 ?k2 ?_; (case k1 => exact rfl); (case k2 => exact rfl); k_whole))
  k_with "exec For Name Subscript cons nil" => (k_here; (with_reducible rename Fr _ _ _ _ => lF'); k_dflt (refine' For_invVF lF' ?k1 ?k2 ?_; (case k1 => exact rfl); (case k2 => exact rfl); k_whole))
  k_with "all" => (refine List.forall_mem_append.mpr ⟨?a, ?b⟩; (case a => k_all); (case b => k_all))
  k_with "rel" => (simp only [List.size_toArray]; rw [PySem.sizeLine_eq]; lia)
  k_with "call builtin:list.append" => (k_here; (with_reducible show wpAny _ _ (call (Value.builtin _) [Value.ref _, _]) _ _ _); k_dflt (refine' append_K ?k1 ?k2 ?k3 ?_ ?z; (case k1 => k_asm); (case k2 => k_asm); (case k3 => k_upd); (case z => tb_rel); k_whole); intro h' F' N'; (try simp only [List.push_toArray] at N'); (try k_sweep))
  k_with "enter" => (refine' code_def ?k1 ?k2 ?k3 ?k4 ?k5 ?kA ?kF ?kK ?k6 ?k7 ?k8 ?k9 ?kB ?_ ?c2 ?c3 ?c4 ?c5; (case kA => exact rfl); (case kF => exact rfl); (case kK => assumption); (case k1 => k_asm); (case k2 => k_asm); (case k3 => k_asm); (case k4 => k_asm); (case k5 => k_asm); (case k6 => k_is); (case k7 => k_is); (case k8 => ktr_room); (case k9 => first | exact BindsTo.of_eq rfl | exact binds_K (by k_in) rfl (by k_is) rfl rfl rfl); (case c5 => decide); (case kB => exact locs rfl); (case c2 => exact rfl); (case c3 => exact rfl); (case c4 => exact rfl); k_whole; intro g' L' h' FG' F' N' B' X' T'; (try dsimp only); (try k_lift B'); (try k_fold))
  k_with "JoinP" => (dsimp only [JoinP])
  k_with "subscriptTail" => (k_here; (with_reducible show wpAny _ _ (subscriptTail _ _ (Value.str (S _) _) (Value.int _ _)) _ _ _); first | (with_reducible refine item_S (by k_dflt (first | assumption | lia | k_extra "my item")) (by k_dflt tb_start) ?_) | k_dflt (refine item_Si (by lia) (by first | lia | k_extra "my item") (by tb_start) ?_))
  k_with "compareOp Eq str str" => ((with_reducible show wpAny _ _ (compareOp CmpOp.Eq (Value.str (S _) _) (Value.str (Str.ofString _) _)) _ _ _); k_dflt (first | refine eq_lit [13] (by decide +kernel) ?_ | refine eq_lit [10] (by decide +kernel) ?_))
  k_with "compareOp NotEq str str" => ((with_reducible show wpAny _ _ (compareOp CmpOp.NotEq (Value.str (S _) _) (Value.str (Str.ofString _) _)) _ _ _); k_dflt (first | refine ne_lit [13] (by decide +kernel) ?_ | refine ne_lit [10] (by decide +kernel) ?_))
  k_with "inplaceOp Add str str" => ((with_reducible show wpAny _ _ (inplaceOp Operator.Add (Value.str (S _) _) (Value.str (Str.ofString _) _)) _ _ _); k_dflt (refine iadd_lit [10] (by decide +kernel) (by tb_start) ?_); intro _ _)
  k_with "room" => (k_dflt ((first | apply room4 | apply room3 | apply room2 | apply room1 | apply room0 | apply roomz); assumption; exact rfl))
  k_with "call builtin:sum" => (k_dflt (refine LCg.sum_ints (by k_asm) (by k_asm) (by rfl) (News.isList (by k_asm) (.tail _ (.tail _ (.head _)))) hIt ?_); intro h' tk' t' F' N'; (try k_sweep))
  k_with "call builtin:len" => ((with_reducible show wpAny _ _ (call (Value.builtin _) [Value.ref _]) _ _ _); k_dflt (refine len_sg (News.isList (by k_asm) (.head _)) hG (le3 hnl rfl) ?_))
  k_steps
  all_goals (
    rename Fr _ _ _ _ => F9
    rename News _ _ _ _ => N9
    rw [hk] at F9
    exact hret _ _ k _ hkl F9 N9)
set_option maxRecDepth 100000 in
set_option maxHeartbeats 4000000 in
theorem s4 (hn : news = [(Dg, W.listOf gs.toArray ng), (Ds, W.listOf ss.toArray n1), (l, W.listOf es.toArray nn)]) (hS : StrsAre ss ((spell R).map S)) (hRl : R.length ≤ 28)
    (bd : Stmt) (tl : List Stmt) (sc : Scope) (hb : lawB.drop 4 = bd :: tl) (hs : lawSc = sc)
    (dp un : Nat) (gd : Option (List Code)) (a : Addr) (ccd : Value) (cl : List (Str × Addr)) (outer : List Env) (A₀ : Around) (base h₀ : Heap) (L : Addr) (s : Shared) (Q : Flow → Shared → Prop) (E : Value → Shared → Prop)
    (B : Below A₀ base outer h₀) (F : Fr h₀ L s.heap (fun y => if y = Str.ofString "cut" then some (.int (k : Int) tk) else if y = Str.ofString "signs" then some (.ref Dg) else if y = Str.ofString "spelled" then some (.ref Ds) else if y = Str.ofString "numbers" then some (.ref l) else List.lookup y [(Str.ofString "script", vc)].reverse))
    (X : (hd05.heap_39 w.params).In h₀) (N : News h₀ L s.heap news) (T : Top hd05.view_39 loose mean mg mb h₀) (hd : dp + 100 < recursionLimit) (hu : un + 800 < cLine) (hE : PassesOwn (model PySem.Challenge.pw_te0074_05 w) (ktrTop dp un gd (Str.ofString "law") sc L a ccd cl outer) (envOf (Str.ofString "law") sc L a ccd) E)
    (hret : ∀ h' tk' ad xA nA, LedIs w R [(Dg, W.listOf gs.toArray ng), (Ds, W.listOf ss.toArray n1), (l, W.listOf es.toArray nn)] ad xA ⟨[], 0, 0, 0, 0, none, 0⟩ nA → Fr h₀ L h' (fun y => if y = Str.ofString "whole" then some (.ref xA) else if y = Str.ofString "cut" then some (.int (k : Int) tk) else if y = Str.ofString "signs" then some (.ref Dg) else if y = Str.ofString "spelled" then some (.ref Ds) else if y = Str.ofString "numbers" then some (.ref l) else List.lookup y [(Str.ofString "script", vc)].reverse) → News h₀ L h' nA → Q .next { s with heap := h', toks := tk' }) :
    wpAny (model PySem.Challenge.pw_te0074_05 w) (ktrTop dp un gd (Str.ofString "law") sc L a ccd cl outer) (exec bd (envOf (Str.ofString "law") sc L a ccd)) Q E s := by
  conv at hb => lhs; whnf
  conv at hs => lhs; whnf
  cases hb
  subst hs
  subst hn
  have hnl : (spell R).length ≤ 28 := by rw [spell_len]; exact Nat.le_trans (norm_len R) hRl
  have hws := spell_ws R
  k_with_none
  k_with "tb" => (first | assumption | (apply le3; assumption; exact rfl) | lia | (simp only [List.length_append, List.length_cons, List.length_nil, List.length_take, List.length_drop, List.length_dropLast, crs_len, partOf_len] at *; lia) | ((with_reducible refine Nat.le_trans (crlf_len _) ?_); tb_start) | ((with_reducible refine Nat.le_trans (split_len _) ?_); tb_start) | ((with_reducible refine Nat.le_trans (norm_len _) ?_); tb_start))
  k_with "call builtin:str.count" => (refine count4 (by decide +kernel) (by first | assumption | lia) ?_)
  k_with "call builtin:str.rfind" => (refine rfind4 (by decide +kernel) (by first | assumption | lia) ?_)
  k_with "call builtin:str.replace" => ((try dsimp only at *); k_dflt (refine repl_crlf_S (by decide +kernel) (by decide +kernel) (by k_ne) (by k_ne) (by k_ne) (by tb_start) ?_); intro _ _ _)
  k_with "call builtin:str.replace" => ((try dsimp only at *); k_dflt (refine repl_cr_S (by decide +kernel) (by decide +kernel) (by k_ne) (by k_ne) (by k_ne) (by tb_start) ?_); intro _ _ _)
  k_with "call builtin:len" => ((with_reducible show wpAny _ _ (call (Value.builtin "len") [Value.str (S _) _]) _ _ _); refine len_S (by tb_start) ?_)
  k_with "call builtin:ord" => ((with_reducible show wpAny _ _ (call (Value.builtin "ord") [Value.str (S _) _]) _ _ _); refine ord_S ?_)
  k_with "binaryOp Add str str" => ((with_reducible show wpAny _ _ (binaryOp Operator.Add (Value.str (S _) _) (Value.str (S _) _)) _ _ _); refine add_S (by tb_start) ?_; intro _ _)
  k_with "inplaceOp Add str str" => ((with_reducible show wpAny _ _ (inplaceOp Operator.Add (Value.str (S _) _) (Value.str (S _) _)) _ _ _); refine iadd_S (by tb_start) ?_; intro _ _)
  k_with "truthy str" => ((with_reducible show wpAny _ _ (truthy (Value.str (S _) _)) _ _ _); refine truthy_S (by tb_start) ?_)
  k_with "compareOp Eq str str" => ((with_reducible show wpAny _ _ (compareOp CmpOp.Eq (Value.str (S _) _) (Value.str (S _) _)) _ _ _); refine eq_S ?_)
  k_with "compareOp NotEq str str" => ((with_reducible show wpAny _ _ (compareOp CmpOp.NotEq (Value.str (S _) _) (Value.str (S _) _)) _ _ _); refine ne_S ?_)
  k_with "subscriptTail Name Slice str ref" => (k_here; (with_reducible rename Fr _ _ _ _ => F'); (with_reducible rename News _ _ _ _ => N'); k_dflt (refine drop_S (s := ⟨_, _, _, _, _⟩) F' N' (by tb_start) ?_); intro _ _ _ _ _; (try k_sweep))
  k_with "subscriptTail Name Slice str ref" => (k_here; (with_reducible rename Fr _ _ _ _ => F'); (with_reducible rename News _ _ _ _ => N'); k_dflt (refine take_S (s := ⟨_, _, _, _, _⟩) F' N' (by tb_start) ?_); intro _ _ _ _ _; (try k_sweep))
  k_with "subscriptTail Name Slice str ref" => (k_here; (with_reducible rename Fr _ _ _ _ => F'); (with_reducible rename News _ _ _ _ => N'); k_dflt (refine mid_S (s := ⟨_, _, _, _, _⟩) F' N' (by tb_start) ?_); intro _ _ _ _ _; (try k_sweep))
  k_with "subscriptTail Name Slice str ref" => (k_here; (with_reducible rename Fr _ _ _ _ => F'); (with_reducible rename News _ _ _ _ => N'); k_dflt (refine part_S (s := ⟨_, _, _, _, _⟩) F' N' (by tb_start) ?_); intro _ _ _ _ _; (try k_sweep))
  k_with "subscriptTail Name Slice str ref" => (k_here; (with_reducible rename Fr _ _ _ _ => F'); (with_reducible rename News _ _ _ _ => N'); k_dflt (refine init_S (s := ⟨_, _, _, _, _⟩) F' N' (by tb_start) ?_); intro _ _ _ _ _; (try k_sweep))
  k_with "subscriptTail Name UnaryOp str int" => (k_here; (with_reducible show wpAny _ _ (subscriptTail _ _ (Value.str (S _) _) (Value.int _ _)) _ _ _); k_dflt (first | (refine last_S (by first | assumption | (intro hz; simp only [hz, List.length_nil] at *; lia)) (by tb_start) ?_) | (refine item_S (by first | assumption | lia | k_extra "my item") (by tb_start) ?_)))
  k_with "subscriptTail Name Name str int" => (k_here; (with_reducible show wpAny _ _ (subscriptTail _ _ (Value.str (S _) _) (Value.int _ _)) _ _ _); first | (with_reducible refine item_S (by k_dflt (first | assumption | lia | k_extra "my item")) (by k_dflt tb_start) ?_) | k_dflt (refine item_Si (by lia) (by first | lia | k_extra "my item") (by tb_start) ?_))
  k_with "subscriptTail Name Constant str int" => (k_here; (with_reducible show wpAny _ _ (subscriptTail _ _ (Value.str (S _) _) (Value.int _ _)) _ _ _); first | (with_reducible refine item_S (by k_dflt (first | assumption | lia | k_extra "my item")) (by k_dflt tb_start) ?_) | k_dflt (refine item_Si (by lia) (by first | lia | k_extra "my item") (by tb_start) ?_))
  k_with "subscriptTail Name BinOp str int" => (k_here; (with_reducible show wpAny _ _ (subscriptTail _ _ (Value.str (S _) _) (Value.int _ _)) _ _ _); first | (with_reducible refine item_S (by k_dflt (first | assumption | lia | k_extra "my item")) (by k_dflt tb_start) ?_) | k_dflt (refine item_Si (by lia) (by first | lia | k_extra "my item") (by tb_start) ?_))
  k_with "subscriptTail Attribute Name str int" => (k_here; (with_reducible show wpAny _ _ (subscriptTail _ _ (Value.str (S _) _) (Value.int _ _)) _ _ _); first | (with_reducible refine item_S (by k_dflt (first | assumption | lia | k_extra "my item")) (by k_dflt tb_start) ?_) | k_dflt (refine item_Si (by lia) (by first | lia | k_extra "my item") (by tb_start) ?_))
  k_with "subscriptTail Attribute Constant str int" => (k_here; (with_reducible show wpAny _ _ (subscriptTail _ _ (Value.str (S _) _) (Value.int _ _)) _ _ _); first | (with_reducible refine item_S (by k_dflt (first | assumption | lia | k_extra "my item")) (by k_dflt tb_start) ?_) | k_dflt (refine item_Si (by lia) (by first | lia | k_extra "my item") (by tb_start) ?_))
  k_with "subscriptTail Attribute Attribute str int" => (k_here; (with_reducible show wpAny _ _ (subscriptTail _ _ (Value.str (S _) _) (Value.int _ _)) _ _ _); first | (with_reducible refine item_S (by k_dflt (first | assumption | lia | k_extra "my item")) (by k_dflt tb_start) ?_) | k_dflt (refine item_Si (by lia) (by first | lia | k_extra "my item") (by tb_start) ?_))
  k_with "truthy ref" => (k_here; k_dflt (refine' truthy_meth ?N ?q ?_; (case N => k_asm); (case q => k_mem); k_whole))
  k_with "exec For Name Name cons nil" => (k_here; (with_reducible rename Fr _ _ _ _ => lF'); k_dflt (refine' For_invVF lF' ?k1 ?k2 ?_; (case k1 => exact rfl); (case k2 => exact rfl); k_whole))
  k_with "exec For Name Subscript cons nil" => (k_here; (with_reducible rename Fr _ _ _ _ => lF'); k_dflt (refine' For_invVF lF' ?k1 ?k2 ?_; (case k1 => exact rfl); (case k2 => exact rfl); k_whole))
  k_with "all" => (refine List.forall_mem_append.mpr ⟨?a, ?b⟩; (case a => k_all); (case b => k_all))
  k_with "rel" => (simp only [List.size_toArray]; rw [PySem.sizeLine_eq]; lia)
  k_with "call builtin:list.append" => (k_here; (with_reducible show wpAny _ _ (call (Value.builtin _) [Value.ref _, _]) _ _ _); k_dflt (refine' append_K ?k1 ?k2 ?k3 ?_ ?z; (case k1 => k_asm); (case k2 => k_asm); (case k3 => k_upd); (case z => tb_rel); k_whole); intro h' F' N'; (try simp only [List.push_toArray] at N'); (try k_sweep))
  k_with "enter" => (refine' code_def ?k1 ?k2 ?k3 ?k4 ?k5 ?kA ?kF ?kK ?k6 ?k7 ?k8 ?k9 ?kB ?_ ?c2 ?c3 ?c4 ?c5; (case kA => exact rfl); (case kF => exact rfl); (case kK => assumption); (case k1 => k_asm); (case k2 => k_asm); (case k3 => k_asm); (case k4 => k_asm); (case k5 => k_asm); (case k6 => k_is); (case k7 => k_is); (case k8 => ktr_room); (case k9 => first | exact BindsTo.of_eq rfl | exact binds_K (by k_in) rfl (by k_is) rfl rfl rfl); (case c5 => decide); (case kB => exact locs rfl); (case c2 => exact rfl); (case c3 => exact rfl); (case c4 => exact rfl); k_whole; intro g' L' h' FG' F' N' B' X' T'; (try dsimp only); (try k_lift B'); (try k_fold))
  k_with "JoinP" => (dsimp only [JoinP])
  k_with "subscriptTail" => (k_here; (with_reducible show wpAny _ _ (subscriptTail _ _ (Value.str (S _) _) (Value.int _ _)) _ _ _); first | (with_reducible refine item_S (by k_dflt (first | assumption | lia | k_extra "my item")) (by k_dflt tb_start) ?_) | k_dflt (refine item_Si (by lia) (by first | lia | k_extra "my item") (by tb_start) ?_))
  k_with "compareOp Eq str str" => ((with_reducible show wpAny _ _ (compareOp CmpOp.Eq (Value.str (S _) _) (Value.str (Str.ofString _) _)) _ _ _); k_dflt (first | refine eq_lit [13] (by decide +kernel) ?_ | refine eq_lit [10] (by decide +kernel) ?_))
  k_with "compareOp NotEq str str" => ((with_reducible show wpAny _ _ (compareOp CmpOp.NotEq (Value.str (S _) _) (Value.str (Str.ofString _) _)) _ _ _); k_dflt (first | refine ne_lit [13] (by decide +kernel) ?_ | refine ne_lit [10] (by decide +kernel) ?_))
  k_with "inplaceOp Add str str" => ((with_reducible show wpAny _ _ (inplaceOp Operator.Add (Value.str (S _) _) (Value.str (Str.ofString _) _)) _ _ _); k_dflt (refine iadd_lit [10] (by decide +kernel) (by tb_start) ?_); intro _ _)
  k_with "room" => (k_dflt ((first | apply room4 | apply room3 | apply room2 | apply room1 | apply room0 | apply roomz); assumption; exact rfl))
  k_with "call builtin:str.join" => (k_dflt (refine join_S (ls := spell R) hws.2 of_empty (News.isList (by k_asm) (.tail _ (.head _))) hS (Nat.le_trans hnl (by decide)) (fun z hz => by rcases hws.1.1 z hz with rfl | ⟨c, rfl⟩ <;> exact Nat.le_of_ble_eq_true rfl) ?_); intro t' k')
  k_with "call ref" => ((with_reducible show wpAny _ _ (call (Value.ref 131) _) _ _ _); k_dflt ((refine' new_spec R _ (le3 hRl rfl) ?B ?F ?X ?N ?T ?hk ?hd ?hu ?_); (case B => k_asm); (case F => k_asm); (case X => k_asm); (case T => k_asm); (case hk => first | exact rfl | assumption); (case N => k_asm); (case hd => ktr_room); (case hu => ktr_units); (intro ad x n' h' tk' hL' F' N'); (try k_sweep); (try dsimp only); (try k_fold)))
  k_steps
  all_goals (
    rename Fr _ _ _ _ => F9
    rename News _ _ _ _ => N9
    exact hret _ _ _ _ _ hL' F9 N9)
end
section
variable {w : World} {mean : ExcName → Option Value} {mg mb : Str → Option Value} {R R2 : List Nat} {r0 nK news : List (Addr × Obj)} {adA adB : List Nat} {xA xB : Nat} {stA stB : St} {l Ds Dg : Addr} {es ss gs : List Value} {nn n1 ng : Nat} {ns : List Int} {vc : Value} {k : Nat} {tk : Tok}
set_option maxRecDepth 100000 in
set_option maxHeartbeats 4000000 in
theorem s5 (hK : LedIs w R r0 adA xA stA news) (hm : (Ds, W.listOf ss.toArray n1) ∈ r0) (hS : StrsAre ss ((spell R).map S)) (hR : Raw5 R) (hk : k ≤ (norm R).length)
    (bd : Stmt) (tl : List Stmt) (sc : Scope) (hb : lawB.drop 5 = bd :: tl) (hs : lawSc = sc)
    (dp un : Nat) (gd : Option (List Code)) (a : Addr) (ccd : Value) (cl : List (Str × Addr)) (outer : List Env) (A₀ : Around) (base h₀ : Heap) (L : Addr) (s : Shared) (Q : Flow → Shared → Prop) (E : Value → Shared → Prop)
    (B : Below A₀ base outer h₀) (F : Fr h₀ L s.heap (fun y => if y = Str.ofString "whole" then some (.ref xA) else if y = Str.ofString "cut" then some (.int (k : Int) tk) else if y = Str.ofString "signs" then some (.ref Dg) else if y = Str.ofString "spelled" then some (.ref Ds) else if y = Str.ofString "numbers" then some (.ref l) else List.lookup y [(Str.ofString "script", vc)].reverse))
    (X : (hd05.heap_39 w.params).In h₀) (N : News h₀ L s.heap news) (T : Top hd05.view_39 loose mean mg mb h₀) (hd : dp + 100 < recursionLimit) (hu : un + 800 < cLine) (hE : PassesOwn (model PySem.Challenge.pw_te0074_05 w) (ktrTop dp un gd (Str.ofString "law") sc L a ccd cl outer) (envOf (Str.ofString "law") sc L a ccd) E)
    (hret : ∀ h' tk' ad xB nB, LedIs w (post5 R k) news ad xB ⟨[], 0, 0, 0, 0, none, 0⟩ nB → Fr h₀ L h' (fun y => if y = Str.ofString "rest" then some (.ref xB) else if y = Str.ofString "whole" then some (.ref xA) else if y = Str.ofString "cut" then some (.int (k : Int) tk) else if y = Str.ofString "signs" then some (.ref Dg) else if y = Str.ofString "spelled" then some (.ref Ds) else if y = Str.ofString "numbers" then some (.ref l) else List.lookup y [(Str.ofString "script", vc)].reverse) → News h₀ L h' nB → Q .next { s with heap := h', toks := tk' }) :
    wpAny (model PySem.Challenge.pw_te0074_05 w) (ktrTop dp un gd (Str.ofString "law") sc L a ccd cl outer) (exec bd (envOf (Str.ofString "law") sc L a ccd)) Q E s := by
  conv at hb => lhs; whnf
  conv at hs => lhs; whnf
  cases hb
  subst hs
  have hnl : (spell R).length ≤ 28 := by rw [spell_len]; exact Nat.le_trans (norm_len R) hR.len
  have hws := spell_ws R
  have hks : k ≤ ((spell R).map S).length := by rw [List.length_map, spell_len]; exact hk
  have hsl : ((spell R).map S).length ≤ 10000 := by rw [List.length_map]; exact le3 hnl rfl
  have hdl : ((spell R).drop k).length ≤ 100 := by rw [List.length_drop]; exact Nat.le_trans (Nat.sub_le _ _) (le3 hnl rfl)
  have hRl := (hR.post k).len
  unfold LedIs at hK
  k_with_none
  k_with "tb" => (first | assumption | (apply le3; assumption; exact rfl) | lia | (simp only [List.length_append, List.length_cons, List.length_nil, List.length_take, List.length_drop, List.length_dropLast, crs_len, partOf_len] at *; lia) | ((with_reducible refine Nat.le_trans (crlf_len _) ?_); tb_start) | ((with_reducible refine Nat.le_trans (split_len _) ?_); tb_start) | ((with_reducible refine Nat.le_trans (norm_len _) ?_); tb_start))
  k_with "call builtin:str.count" => (refine count4 (by decide +kernel) (by first | assumption | lia) ?_)
  k_with "call builtin:str.rfind" => (refine rfind4 (by decide +kernel) (by first | assumption | lia) ?_)
  k_with "call builtin:str.replace" => ((try dsimp only at *); k_dflt (refine repl_crlf_S (by decide +kernel) (by decide +kernel) (by k_ne) (by k_ne) (by k_ne) (by tb_start) ?_); intro _ _ _)
  k_with "call builtin:str.replace" => ((try dsimp only at *); k_dflt (refine repl_cr_S (by decide +kernel) (by decide +kernel) (by k_ne) (by k_ne) (by k_ne) (by tb_start) ?_); intro _ _ _)
  k_with "call builtin:len" => ((with_reducible show wpAny _ _ (call (Value.builtin "len") [Value.str (S _) _]) _ _ _); refine len_S (by tb_start) ?_)
  k_with "call builtin:ord" => ((with_reducible show wpAny _ _ (call (Value.builtin "ord") [Value.str (S _) _]) _ _ _); refine ord_S ?_)
  k_with "binaryOp Add str str" => ((with_reducible show wpAny _ _ (binaryOp Operator.Add (Value.str (S _) _) (Value.str (S _) _)) _ _ _); refine add_S (by tb_start) ?_; intro _ _)
  k_with "inplaceOp Add str str" => ((with_reducible show wpAny _ _ (inplaceOp Operator.Add (Value.str (S _) _) (Value.str (S _) _)) _ _ _); refine iadd_S (by tb_start) ?_; intro _ _)
  k_with "truthy str" => ((with_reducible show wpAny _ _ (truthy (Value.str (S _) _)) _ _ _); refine truthy_S (by tb_start) ?_)
  k_with "compareOp Eq str str" => ((with_reducible show wpAny _ _ (compareOp CmpOp.Eq (Value.str (S _) _) (Value.str (S _) _)) _ _ _); refine eq_S ?_)
  k_with "compareOp NotEq str str" => ((with_reducible show wpAny _ _ (compareOp CmpOp.NotEq (Value.str (S _) _) (Value.str (S _) _)) _ _ _); refine ne_S ?_)
  k_with "subscriptTail Name Slice str ref" => (k_here; (with_reducible rename Fr _ _ _ _ => F'); (with_reducible rename News _ _ _ _ => N'); k_dflt (refine drop_S (s := ⟨_, _, _, _, _⟩) F' N' (by tb_start) ?_); intro _ _ _ _ _; (try k_sweep))
  k_with "subscriptTail Name Slice str ref" => (k_here; (with_reducible rename Fr _ _ _ _ => F'); (with_reducible rename News _ _ _ _ => N'); k_dflt (refine take_S (s := ⟨_, _, _, _, _⟩) F' N' (by tb_start) ?_); intro _ _ _ _ _; (try k_sweep))
  k_with "subscriptTail Name Slice str ref" => (k_here; (with_reducible rename Fr _ _ _ _ => F'); (with_reducible rename News _ _ _ _ => N'); k_dflt (refine mid_S (s := ⟨_, _, _, _, _⟩) F' N' (by tb_start) ?_); intro _ _ _ _ _; (try k_sweep))
  k_with "subscriptTail Name Slice str ref" => (k_here; (with_reducible rename Fr _ _ _ _ => F'); (with_reducible rename News _ _ _ _ => N'); k_dflt (refine part_S (s := ⟨_, _, _, _, _⟩) F' N' (by tb_start) ?_); intro _ _ _ _ _; (try k_sweep))
  k_with "subscriptTail Name Slice str ref" => (k_here; (with_reducible rename Fr _ _ _ _ => F'); (with_reducible rename News _ _ _ _ => N'); k_dflt (refine init_S (s := ⟨_, _, _, _, _⟩) F' N' (by tb_start) ?_); intro _ _ _ _ _; (try k_sweep))
  k_with "subscriptTail Name UnaryOp str int" => (k_here; (with_reducible show wpAny _ _ (subscriptTail _ _ (Value.str (S _) _) (Value.int _ _)) _ _ _); k_dflt (first | (refine last_S (by first | assumption | (intro hz; simp only [hz, List.length_nil] at *; lia)) (by tb_start) ?_) | (refine item_S (by first | assumption | lia | k_extra "my item") (by tb_start) ?_)))
  k_with "subscriptTail Name Name str int" => (k_here; (with_reducible show wpAny _ _ (subscriptTail _ _ (Value.str (S _) _) (Value.int _ _)) _ _ _); first | (with_reducible refine item_S (by k_dflt (first | assumption | lia | k_extra "my item")) (by k_dflt tb_start) ?_) | k_dflt (refine item_Si (by lia) (by first | lia | k_extra "my item") (by tb_start) ?_))
  k_with "subscriptTail Name Constant str int" => (k_here; (with_reducible show wpAny _ _ (subscriptTail _ _ (Value.str (S _) _) (Value.int _ _)) _ _ _); first | (with_reducible refine item_S (by k_dflt (first | assumption | lia | k_extra "my item")) (by k_dflt tb_start) ?_) | k_dflt (refine item_Si (by lia) (by first | lia | k_extra "my item") (by tb_start) ?_))
  k_with "subscriptTail Name BinOp str int" => (k_here; (with_reducible show wpAny _ _ (subscriptTail _ _ (Value.str (S _) _) (Value.int _ _)) _ _ _); first | (with_reducible refine item_S (by k_dflt (first | assumption | lia | k_extra "my item")) (by k_dflt tb_start) ?_) | k_dflt (refine item_Si (by lia) (by first | lia | k_extra "my item") (by tb_start) ?_))
  k_with "subscriptTail Attribute Name str int" => (k_here; (with_reducible show wpAny _ _ (subscriptTail _ _ (Value.str (S _) _) (Value.int _ _)) _ _ _); first | (with_reducible refine item_S (by k_dflt (first | assumption | lia | k_extra "my item")) (by k_dflt tb_start) ?_) | k_dflt (refine item_Si (by lia) (by first | lia | k_extra "my item") (by tb_start) ?_))
  k_with "subscriptTail Attribute Constant str int" => (k_here; (with_reducible show wpAny _ _ (subscriptTail _ _ (Value.str (S _) _) (Value.int _ _)) _ _ _); first | (with_reducible refine item_S (by k_dflt (first | assumption | lia | k_extra "my item")) (by k_dflt tb_start) ?_) | k_dflt (refine item_Si (by lia) (by first | lia | k_extra "my item") (by tb_start) ?_))
  k_with "subscriptTail Attribute Attribute str int" => (k_here; (with_reducible show wpAny _ _ (subscriptTail _ _ (Value.str (S _) _) (Value.int _ _)) _ _ _); first | (with_reducible refine item_S (by k_dflt (first | assumption | lia | k_extra "my item")) (by k_dflt tb_start) ?_) | k_dflt (refine item_Si (by lia) (by first | lia | k_extra "my item") (by tb_start) ?_))
  k_with "truthy ref" => (k_here; k_dflt (refine' truthy_meth ?N ?q ?_; (case N => k_asm); (case q => k_mem); k_whole))
  k_with "exec For Name Name cons nil" => (k_here; (with_reducible rename Fr _ _ _ _ => lF'); k_dflt (refine' For_invVF lF' ?k1 ?k2 ?_; (case k1 => exact rfl); (case k2 => exact rfl); k_whole))
  k_with "exec For Name Subscript cons nil" => (k_here; (with_reducible rename Fr _ _ _ _ => lF'); k_dflt (refine' For_invVF lF' ?k1 ?k2 ?_; (case k1 => exact rfl); (case k2 => exact rfl); k_whole))
  k_with "all" => (refine List.forall_mem_append.mpr ⟨?a, ?b⟩; (case a => k_all); (case b => k_all))
  k_with "rel" => (simp only [List.size_toArray]; rw [PySem.sizeLine_eq]; lia)
  k_with "call builtin:list.append" => (k_here; (with_reducible show wpAny _ _ (call (Value.builtin _) [Value.ref _, _]) _ _ _); k_dflt (refine' append_K ?k1 ?k2 ?k3 ?_ ?z; (case k1 => k_asm); (case k2 => k_asm); (case k3 => k_upd); (case z => tb_rel); k_whole); intro h' F' N'; (try simp only [List.push_toArray] at N'); (try k_sweep))
  k_with "enter" => (refine' code_def ?k1 ?k2 ?k3 ?k4 ?k5 ?kA ?kF ?kK ?k6 ?k7 ?k8 ?k9 ?kB ?_ ?c2 ?c3 ?c4 ?c5; (case kA => exact rfl); (case kF => exact rfl); (case kK => assumption); (case k1 => k_asm); (case k2 => k_asm); (case k3 => k_asm); (case k4 => k_asm); (case k5 => k_asm); (case k6 => k_is); (case k7 => k_is); (case k8 => ktr_room); (case k9 => first | exact BindsTo.of_eq rfl | exact binds_K (by k_in) rfl (by k_is) rfl rfl rfl); (case c5 => decide); (case kB => exact locs rfl); (case c2 => exact rfl); (case c3 => exact rfl); (case c4 => exact rfl); k_whole; intro g' L' h' FG' F' N' B' X' T'; (try dsimp only); (try k_lift B'); (try k_fold))
  k_with "JoinP" => (dsimp only [JoinP])
  k_with "subscriptTail" => (k_here; (with_reducible show wpAny _ _ (subscriptTail _ _ (Value.str (S _) _) (Value.int _ _)) _ _ _); first | (with_reducible refine item_S (by k_dflt (first | assumption | lia | k_extra "my item")) (by k_dflt tb_start) ?_) | k_dflt (refine item_Si (by lia) (by first | lia | k_extra "my item") (by tb_start) ?_))
  k_with "compareOp Eq str str" => ((with_reducible show wpAny _ _ (compareOp CmpOp.Eq (Value.str (S _) _) (Value.str (Str.ofString _) _)) _ _ _); k_dflt (first | refine eq_lit [13] (by decide +kernel) ?_ | refine eq_lit [10] (by decide +kernel) ?_))
  k_with "compareOp NotEq str str" => ((with_reducible show wpAny _ _ (compareOp CmpOp.NotEq (Value.str (S _) _) (Value.str (Str.ofString _) _)) _ _ _); k_dflt (first | refine ne_lit [13] (by decide +kernel) ?_ | refine ne_lit [10] (by decide +kernel) ?_))
  k_with "inplaceOp Add str str" => ((with_reducible show wpAny _ _ (inplaceOp Operator.Add (Value.str (S _) _) (Value.str (Str.ofString _) _)) _ _ _); k_dflt (refine iadd_lit [10] (by decide +kernel) (by tb_start) ?_); intro _ _)
  k_with "room" => (k_dflt ((first | apply room4 | apply room3 | apply room2 | apply room1 | apply room0 | apply roomz); assumption; exact rfl))
  k_with "subscriptTail Name Slice ref ref" => ((with_reducible rename Fr _ _ _ _ => F9); (with_reducible rename News _ _ _ _ => N9); k_dflt (refine' from_G (a := k) (s := ⟨_, _, _, _, _⟩) F9 N9 (News.isList N9 (LedR.mem_rest hK hm)) hS hks hsl ?_); (clear F9 N9); (intro Dm wm hm' Fm Nm l1m hSm); (rw [← List.map_drop] at hSm))
  k_with "call builtin:str.join" => (k_dflt (refine join_S (ls := (spell R).drop k) (R := post5 R k) rfl of_empty (News.isList (by k_asm) (.head _)) hSm hdl (fun z hz => by rcases hws.1.1 z (List.mem_of_mem_drop hz) with rfl | ⟨c, rfl⟩ <;> exact Nat.le_of_ble_eq_true rfl) ?_); intro t' k')
  k_with "call ref" => ((with_reducible show wpAny _ _ (call (Value.ref 131) _) _ _ _); k_dflt ((refine' new_spec (post5 R k) _ (le3 hRl rfl) ?B ?F ?X ?N ?T ?hk ?hd ?hu ?_); (case B => k_asm); (case F => k_asm); (case X => k_asm); (case T => k_asm); (case hk => first | exact rfl | assumption); (case N => exact News.tl (by k_asm)); (case hd => ktr_room); (case hu => ktr_units); (intro ad x n' h' tk' hL' F' N'); (try k_sweep); (try dsimp only); (try k_fold)))
  k_steps
  all_goals (
    rename Fr _ _ _ _ => F9
    rename News _ _ _ _ => N9
    exact hret _ _ _ _ _ hL' F9 N9)
set_option maxRecDepth 100000 in
set_option maxHeartbeats 4000000 in
theorem s6 (hK : LedIs w R r0 adA xA ⟨[], 0, 0, 0, 0, none, 0⟩ nK) (hF : LedIs w R2 nK adB xB stB news) (hm : (l, W.listOf es.toArray nn) ∈ r0) (hIt : IntsAre es (nums5 ns)) (hR : Raw5 R)
    (bd : Stmt) (tl : List Stmt) (sc : Scope) (hb : lawB.drop 6 = bd :: tl) (hs : lawSc = sc)
    (dp un : Nat) (gd : Option (List Code)) (a : Addr) (ccd : Value) (cl : List (Str × Addr)) (outer : List Env) (A₀ : Around) (base h₀ : Heap) (L : Addr) (s : Shared) (Q : Flow → Shared → Prop) (E : Value → Shared → Prop)
    (B : Below A₀ base outer h₀) (F : Fr h₀ L s.heap (fun y => if y = Str.ofString "rest" then some (.ref xB) else if y = Str.ofString "whole" then some (.ref xA) else if y = Str.ofString "cut" then some (.int (k : Int) tk) else if y = Str.ofString "signs" then some (.ref Dg) else if y = Str.ofString "spelled" then some (.ref Ds) else if y = Str.ofString "numbers" then some (.ref l) else List.lookup y [(Str.ofString "script", vc)].reverse))
    (X : (hd05.heap_39 w.params).In h₀) (N : News h₀ L s.heap news) (T : Top hd05.view_39 loose mean mg mb h₀) (hd : dp + 100 < recursionLimit) (hu : un + 800 < cLine) (hE : PassesOwn (model PySem.Challenge.pw_te0074_05 w) (ktrTop dp un gd (Str.ofString "law") sc L a ccd cl outer) (envOf (Str.ofString "law") sc L a ccd) E)
    (hret : ∀ h' tk' stA nB nw, InvG True R stA 0 → LedIs w R2 r0 adB xB stB nB → LedIs w R nB adA xA stA nw → Fr h₀ L h' (fun y => if y = Str.ofString "rest" then some (.ref xB) else if y = Str.ofString "whole" then some (.ref xA) else if y = Str.ofString "cut" then some (.int (k : Int) tk) else if y = Str.ofString "signs" then some (.ref Dg) else if y = Str.ofString "spelled" then some (.ref Ds) else if y = Str.ofString "numbers" then some (.ref l) else List.lookup y [(Str.ofString "script", vc)].reverse) → News h₀ L h' nw → Q .next { s with heap := h', toks := tk' }) :
    wpAny (model PySem.Challenge.pw_te0074_05 w) (ktrTop dp un gd (Str.ofString "law") sc L a ccd cl outer) (exec bd (envOf (Str.ofString "law") sc L a ccd)) Q E s := by
  conv at hb => lhs; whnf
  conv at hs => lhs; whnf
  cases hb
  subst hs
  obtain ⟨ws, z, tz, rfl⟩ := ints_last hIt (nums5_ne ns)
  obtain ⟨size, hz, hs2, hs5⟩ : ∃ size : Nat, 2 + z.fmod 4 = (size : Int) ∧ 2 ≤ size ∧ size ≤ 5 := ⟨(2 + z.fmod 4).toNat, by
    have h1 := Int.fmod_nonneg_of_pos z (show (0 : Int) < 4 by decide)
    have h2 := Int.fmod_lt_of_pos z (show (0 : Int) < 4 by decide)
    lia⟩
  have hi := (invG_fetch (size := size) (invG_start (g := True) (R := R)) hR.plain rfl hs2).1
  unfold LedIs at hK hF
  k_with_none
  k_with "tb" => (first | assumption | (apply le3; assumption; exact rfl) | lia | (simp only [List.length_append, List.length_cons, List.length_nil, List.length_take, List.length_drop, List.length_dropLast, crs_len, partOf_len] at *; lia) | ((with_reducible refine Nat.le_trans (crlf_len _) ?_); tb_start) | ((with_reducible refine Nat.le_trans (split_len _) ?_); tb_start) | ((with_reducible refine Nat.le_trans (norm_len _) ?_); tb_start))
  k_with "call builtin:str.count" => (refine count4 (by decide +kernel) (by first | assumption | lia) ?_)
  k_with "call builtin:str.rfind" => (refine rfind4 (by decide +kernel) (by first | assumption | lia) ?_)
  k_with "call builtin:str.replace" => ((try dsimp only at *); k_dflt (refine repl_crlf_S (by decide +kernel) (by decide +kernel) (by k_ne) (by k_ne) (by k_ne) (by tb_start) ?_); intro _ _ _)
  k_with "call builtin:str.replace" => ((try dsimp only at *); k_dflt (refine repl_cr_S (by decide +kernel) (by decide +kernel) (by k_ne) (by k_ne) (by k_ne) (by tb_start) ?_); intro _ _ _)
  k_with "call builtin:len" => ((with_reducible show wpAny _ _ (call (Value.builtin "len") [Value.str (S _) _]) _ _ _); refine len_S (by tb_start) ?_)
  k_with "call builtin:ord" => ((with_reducible show wpAny _ _ (call (Value.builtin "ord") [Value.str (S _) _]) _ _ _); refine ord_S ?_)
  k_with "binaryOp Add str str" => ((with_reducible show wpAny _ _ (binaryOp Operator.Add (Value.str (S _) _) (Value.str (S _) _)) _ _ _); refine add_S (by tb_start) ?_; intro _ _)
  k_with "inplaceOp Add str str" => ((with_reducible show wpAny _ _ (inplaceOp Operator.Add (Value.str (S _) _) (Value.str (S _) _)) _ _ _); refine iadd_S (by tb_start) ?_; intro _ _)
  k_with "truthy str" => ((with_reducible show wpAny _ _ (truthy (Value.str (S _) _)) _ _ _); refine truthy_S (by tb_start) ?_)
  k_with "compareOp Eq str str" => ((with_reducible show wpAny _ _ (compareOp CmpOp.Eq (Value.str (S _) _) (Value.str (S _) _)) _ _ _); refine eq_S ?_)
  k_with "compareOp NotEq str str" => ((with_reducible show wpAny _ _ (compareOp CmpOp.NotEq (Value.str (S _) _) (Value.str (S _) _)) _ _ _); refine ne_S ?_)
  k_with "subscriptTail Name Slice str ref" => (k_here; (with_reducible rename Fr _ _ _ _ => F'); (with_reducible rename News _ _ _ _ => N'); k_dflt (refine drop_S (s := ⟨_, _, _, _, _⟩) F' N' (by tb_start) ?_); intro _ _ _ _ _; (try k_sweep))
  k_with "subscriptTail Name Slice str ref" => (k_here; (with_reducible rename Fr _ _ _ _ => F'); (with_reducible rename News _ _ _ _ => N'); k_dflt (refine take_S (s := ⟨_, _, _, _, _⟩) F' N' (by tb_start) ?_); intro _ _ _ _ _; (try k_sweep))
  k_with "subscriptTail Name Slice str ref" => (k_here; (with_reducible rename Fr _ _ _ _ => F'); (with_reducible rename News _ _ _ _ => N'); k_dflt (refine mid_S (s := ⟨_, _, _, _, _⟩) F' N' (by tb_start) ?_); intro _ _ _ _ _; (try k_sweep))
  k_with "subscriptTail Name Slice str ref" => (k_here; (with_reducible rename Fr _ _ _ _ => F'); (with_reducible rename News _ _ _ _ => N'); k_dflt (refine part_S (s := ⟨_, _, _, _, _⟩) F' N' (by tb_start) ?_); intro _ _ _ _ _; (try k_sweep))
  k_with "subscriptTail Name Slice str ref" => (k_here; (with_reducible rename Fr _ _ _ _ => F'); (with_reducible rename News _ _ _ _ => N'); k_dflt (refine init_S (s := ⟨_, _, _, _, _⟩) F' N' (by tb_start) ?_); intro _ _ _ _ _; (try k_sweep))
  k_with "subscriptTail Name UnaryOp str int" => (k_here; (with_reducible show wpAny _ _ (subscriptTail _ _ (Value.str (S _) _) (Value.int _ _)) _ _ _); k_dflt (first | (refine last_S (by first | assumption | (intro hz; simp only [hz, List.length_nil] at *; lia)) (by tb_start) ?_) | (refine item_S (by first | assumption | lia | k_extra "my item") (by tb_start) ?_)))
  k_with "subscriptTail Name Name str int" => (k_here; (with_reducible show wpAny _ _ (subscriptTail _ _ (Value.str (S _) _) (Value.int _ _)) _ _ _); first | (with_reducible refine item_S (by k_dflt (first | assumption | lia | k_extra "my item")) (by k_dflt tb_start) ?_) | k_dflt (refine item_Si (by lia) (by first | lia | k_extra "my item") (by tb_start) ?_))
  k_with "subscriptTail Name Constant str int" => (k_here; (with_reducible show wpAny _ _ (subscriptTail _ _ (Value.str (S _) _) (Value.int _ _)) _ _ _); first | (with_reducible refine item_S (by k_dflt (first | assumption | lia | k_extra "my item")) (by k_dflt tb_start) ?_) | k_dflt (refine item_Si (by lia) (by first | lia | k_extra "my item") (by tb_start) ?_))
  k_with "subscriptTail Name BinOp str int" => (k_here; (with_reducible show wpAny _ _ (subscriptTail _ _ (Value.str (S _) _) (Value.int _ _)) _ _ _); first | (with_reducible refine item_S (by k_dflt (first | assumption | lia | k_extra "my item")) (by k_dflt tb_start) ?_) | k_dflt (refine item_Si (by lia) (by first | lia | k_extra "my item") (by tb_start) ?_))
  k_with "subscriptTail Attribute Name str int" => (k_here; (with_reducible show wpAny _ _ (subscriptTail _ _ (Value.str (S _) _) (Value.int _ _)) _ _ _); first | (with_reducible refine item_S (by k_dflt (first | assumption | lia | k_extra "my item")) (by k_dflt tb_start) ?_) | k_dflt (refine item_Si (by lia) (by first | lia | k_extra "my item") (by tb_start) ?_))
  k_with "subscriptTail Attribute Constant str int" => (k_here; (with_reducible show wpAny _ _ (subscriptTail _ _ (Value.str (S _) _) (Value.int _ _)) _ _ _); first | (with_reducible refine item_S (by k_dflt (first | assumption | lia | k_extra "my item")) (by k_dflt tb_start) ?_) | k_dflt (refine item_Si (by lia) (by first | lia | k_extra "my item") (by tb_start) ?_))
  k_with "subscriptTail Attribute Attribute str int" => (k_here; (with_reducible show wpAny _ _ (subscriptTail _ _ (Value.str (S _) _) (Value.int _ _)) _ _ _); first | (with_reducible refine item_S (by k_dflt (first | assumption | lia | k_extra "my item")) (by k_dflt tb_start) ?_) | k_dflt (refine item_Si (by lia) (by first | lia | k_extra "my item") (by tb_start) ?_))
  k_with "truthy ref" => (k_here; k_dflt (refine' truthy_meth ?N ?q ?_; (case N => k_asm); (case q => k_mem); k_whole))
  k_with "exec For Name Name cons nil" => (k_here; (with_reducible rename Fr _ _ _ _ => lF'); k_dflt (refine' For_invVF lF' ?k1 ?k2 ?_; (case k1 => exact rfl); (case k2 => exact rfl); k_whole))
  k_with "exec For Name Subscript cons nil" => (k_here; (with_reducible rename Fr _ _ _ _ => lF'); k_dflt (refine' For_invVF lF' ?k1 ?k2 ?_; (case k1 => exact rfl); (case k2 => exact rfl); k_whole))
  k_with "all" => (refine List.forall_mem_append.mpr ⟨?a, ?b⟩; (case a => k_all); (case b => k_all))
  k_with "rel" => (simp only [List.size_toArray]; rw [PySem.sizeLine_eq]; lia)
  k_with "call builtin:list.append" => (k_here; (with_reducible show wpAny _ _ (call (Value.builtin _) [Value.ref _, _]) _ _ _); k_dflt (refine' append_K ?k1 ?k2 ?k3 ?_ ?z; (case k1 => k_asm); (case k2 => k_asm); (case k3 => k_upd); (case z => tb_rel); k_whole); intro h' F' N'; (try simp only [List.push_toArray] at N'); (try k_sweep))
  k_with "enter" => (refine' code_def ?k1 ?k2 ?k3 ?k4 ?k5 ?kA ?kF ?kK ?k6 ?k7 ?k8 ?k9 ?kB ?_ ?c2 ?c3 ?c4 ?c5; (case kA => exact rfl); (case kF => exact rfl); (case kK => assumption); (case k1 => k_asm); (case k2 => k_asm); (case k3 => k_asm); (case k4 => k_asm); (case k5 => k_asm); (case k6 => k_is); (case k7 => k_is); (case k8 => ktr_room); (case k9 => first | exact BindsTo.of_eq rfl | exact binds_K (by k_in) rfl (by k_is) rfl rfl rfl); (case c5 => decide); (case kB => exact locs rfl); (case c2 => exact rfl); (case c3 => exact rfl); (case c4 => exact rfl); k_whole; intro g' L' h' FG' F' N' B' X' T'; (try dsimp only); (try k_lift B'); (try k_fold))
  k_with "JoinP" => (dsimp only [JoinP])
  k_with "subscriptTail" => (k_here; (with_reducible show wpAny _ _ (subscriptTail _ _ (Value.str (S _) _) (Value.int _ _)) _ _ _); first | (with_reducible refine item_S (by k_dflt (first | assumption | lia | k_extra "my item")) (by k_dflt tb_start) ?_) | k_dflt (refine item_Si (by lia) (by first | lia | k_extra "my item") (by tb_start) ?_))
  k_with "compareOp Eq str str" => ((with_reducible show wpAny _ _ (compareOp CmpOp.Eq (Value.str (S _) _) (Value.str (Str.ofString _) _)) _ _ _); k_dflt (first | refine eq_lit [13] (by decide +kernel) ?_ | refine eq_lit [10] (by decide +kernel) ?_))
  k_with "compareOp NotEq str str" => ((with_reducible show wpAny _ _ (compareOp CmpOp.NotEq (Value.str (S _) _) (Value.str (Str.ofString _) _)) _ _ _); k_dflt (first | refine ne_lit [13] (by decide +kernel) ?_ | refine ne_lit [10] (by decide +kernel) ?_))
  k_with "inplaceOp Add str str" => ((with_reducible show wpAny _ _ (inplaceOp Operator.Add (Value.str (S _) _) (Value.str (Str.ofString _) _)) _ _ _); k_dflt (refine iadd_lit [10] (by decide +kernel) (by tb_start) ?_); intro _ _)
  k_with "room" => (k_dflt ((first | apply room4 | apply room3 | apply room2 | apply room1 | apply room0 | apply roomz); assumption; exact rfl))
  k_with "getAttr ref" => ((with_reducible show wpAny _ _ (getAttr (Value.ref _) (Str.ofString "errors") _) _ _ _); k_dflt (refine g_errors (by assumption) (by k_asm) (by k_asm) ?N ?_; (case N => first | k_asm | exact News.sub (by k_asm) (fun q hq => LedR.mem_rest (by assumption) hq) | exact News.sub (News.tl (by k_asm)) (fun q hq => LedR.mem_rest (by assumption) hq) | exact News.sub (News.tl (News.tl (by k_asm))) (fun q hq => LedR.mem_rest (by assumption) hq) | exact News.tl (by k_asm) | exact News.tl (News.tl (by k_asm)) | exact News.tl (News.tl (News.tl (by k_asm))))); intro _ hE1)
  k_with "getMethod ref" => ((with_reducible show wpAny _ _ (getMethod (Value.ref _) (Str.ofString "position") _) _ _ _); k_dflt (refine m_pos (by assumption) (by k_asm) (by k_asm) ?N ?_; (case N => first | k_asm | exact News.sub (by k_asm) (fun q hq => LedR.mem_rest (by assumption) hq) | exact News.sub (News.tl (by k_asm)) (fun q hq => LedR.mem_rest (by assumption) hq) | exact News.sub (News.tl (News.tl (by k_asm))) (fun q hq => LedR.mem_rest (by assumption) hq) | exact News.tl (by k_asm) | exact News.tl (News.tl (by k_asm)) | exact News.tl (News.tl (News.tl (by k_asm))))))
  k_with "getMethod ref" => ((with_reducible show wpAny _ _ (getMethod (Value.ref _) (Str.ofString "char") _) _ _ _); k_dflt (refine m_char (by assumption) (by k_asm) (by k_asm) ?N ?_; (case N => first | k_asm | exact News.sub (by k_asm) (fun q hq => LedR.mem_rest (by assumption) hq) | exact News.sub (News.tl (by k_asm)) (fun q hq => LedR.mem_rest (by assumption) hq) | exact News.sub (News.tl (News.tl (by k_asm))) (fun q hq => LedR.mem_rest (by assumption) hq) | exact News.tl (by k_asm) | exact News.tl (News.tl (by k_asm)) | exact News.tl (News.tl (News.tl (by k_asm))))))
  k_with "getMethod ref" => ((with_reducible show wpAny _ _ (getMethod (Value.ref _) (Str.ofString "readChunk") _) _ _ _); k_dflt (refine m_chunk (by assumption) (by k_asm) (by k_asm) ?N ?_; (case N => first | k_asm | exact News.sub (by k_asm) (fun q hq => LedR.mem_rest (by assumption) hq) | exact News.sub (News.tl (by k_asm)) (fun q hq => LedR.mem_rest (by assumption) hq) | exact News.sub (News.tl (News.tl (by k_asm))) (fun q hq => LedR.mem_rest (by assumption) hq) | exact News.tl (by k_asm) | exact News.tl (News.tl (by k_asm)) | exact News.tl (News.tl (News.tl (by k_asm))))))
  k_with "getMethod ref" => ((with_reducible show wpAny _ _ (getMethod (Value.ref _) (Str.ofString "unget") _) _ _ _); k_dflt (refine m_unget (by assumption) (by k_asm) (by k_asm) ?N ?_; (case N => first | k_asm | exact News.sub (by k_asm) (fun q hq => LedR.mem_rest (by assumption) hq) | exact News.sub (News.tl (by k_asm)) (fun q hq => LedR.mem_rest (by assumption) hq) | exact News.sub (News.tl (News.tl (by k_asm))) (fun q hq => LedR.mem_rest (by assumption) hq) | exact News.tl (by k_asm) | exact News.tl (News.tl (by k_asm)) | exact News.tl (News.tl (News.tl (by k_asm))))))
  k_with "getMethod ref" => ((with_reducible show wpAny _ _ (getMethod (Value.ref _) (Str.ofString "charsUntil") _) _ _ _); k_dflt (refine m_until (by assumption) (by k_asm) (by k_asm) ?N ?_; (case N => first | k_asm | exact News.sub (by k_asm) (fun q hq => LedR.mem_rest (by assumption) hq) | exact News.sub (News.tl (by k_asm)) (fun q hq => LedR.mem_rest (by assumption) hq) | exact News.sub (News.tl (News.tl (by k_asm))) (fun q hq => LedR.mem_rest (by assumption) hq) | exact News.tl (by k_asm) | exact News.tl (News.tl (by k_asm)) | exact News.tl (News.tl (News.tl (by k_asm))))))
  k_with "subscriptTail" => ((with_reducible show wpAny _ _ (subscriptTail _ _ (Value.ref _) (Value.int (-1) _)) _ _ _); k_dflt (refine item_last (News.isList (by k_asm) (LedR.mem_rest hF (LedR.mem_rest hK hm))) ?_))
  k_with "call ref" => ((with_reducible show wpAny _ _ (call (Value.ref 106) _) _ _ _); (obtain ⟨nB, n8, hKB, hFA, hsub⟩ := led_swap hK hF); (with_reducible rename News _ _ _ _ => N9); (have N8 := News.sub N9 hsub); (clear N9 hK hF); k_dflt ((rw [hz]); (refine' Spec.useV (chunk_spec (st := ⟨[], 0, 0, 0, 0, none, 0⟩) hFA size _ hR.len3 (by decide) (by decide) (by decide) (le3 hs5 rfl)) ?B ?F ?X ?N ?T ?hk ?hd ?hu ?_); (case B => k_asm); (case F => k_asm); (case X => k_asm); (case T => k_asm); (case hk => first | exact rfl | assumption); (case N => first | k_asm | exact News.tl (by k_asm) | exact News.tl (News.tl (by k_asm)) | exact News.tl (News.tl (News.tl (by k_asm)))); (case hd => ktr_room); (case hu => ktr_units); intro n' h' tk' hA9 hle' F' N'; (clear hFA); (try dsimp only); (try k_fold)))
  k_steps
  all_goals (
    rename Fr _ _ _ _ => F9
    rename News _ _ _ _ => N9
    exact hret _ _ _ _ _ hi hKB hA9 F9 N9)
end
section
variable {w : World} {mean : ExcName → Option Value} {mg mb : Str → Option Value} {R R2 : List Nat} {r0 nK news : List (Addr × Obj)} {adA adB : List Nat} {xA xB : Nat} {stA stB : St} {l Ds Dg : Addr} {es ss gs : List Value} {nn n1 ng : Nat} {ns : List Int} {vc : Value} {k : Nat} {tk : Tok} {us : Option Value}
set_option maxRecDepth 100000 in
set_option maxHeartbeats 4000000 in
theorem s7 (hK : LedIs w R2 r0 adB xB stB nK) (hF : LedIs w R nK adA xA stA news) (hm : (Dg, W.listOf gs.toArray ng) ∈ r0) (hG : StrsAre gs (sg (norm R))) (hR : Raw5 R) (hk : k ≤ (norm R).length) (hi : InvG True R stA 0)
    (bd : Stmt) (tl : List Stmt) (sc : Scope) (hb : lawB.drop 7 = bd :: tl) (hs : lawSc = sc)
    (dp un : Nat) (gd : Option (List Code)) (a : Addr) (ccd : Value) (cl : List (Str × Addr)) (outer : List Env) (A₀ : Around) (base h₀ : Heap) (L : Addr) (s : Shared) (Q : Flow → Shared → Prop) (E : Value → Shared → Prop)
    (B : Below A₀ base outer h₀) (F : Fr h₀ L s.heap (fun y => if y = Str.ofString "rest" then some (.ref xB) else if y = Str.ofString "whole" then some (.ref xA) else if y = Str.ofString "cut" then some (.int (k : Int) tk) else if y = Str.ofString "signs" then some (.ref Dg) else if y = Str.ofString "spelled" then some (.ref Ds) else if y = Str.ofString "numbers" then some (.ref l) else List.lookup y [(Str.ofString "script", vc)].reverse))
    (X : (hd05.heap_39 w.params).In h₀) (N : News h₀ L s.heap news) (T : Top hd05.view_39 loose mean mg mb h₀) (hd : dp + 100 < recursionLimit) (hu : un + 800 < cLine) (hE : PassesOwn (model PySem.Challenge.pw_te0074_05 w) (ktrTop dp un gd (Str.ofString "law") sc L a ccd cl outer) (envOf (Str.ofString "law") sc L a ccd) E)
    (hret : ∀ h' tk' stA' nw us, InvG True R stA' k → LedIs w R nK adA xA stA' nw → Fr h₀ L h' (fun y => if y = Str.ofString "sign" then us else if y = Str.ofString "rest" then some (.ref xB) else if y = Str.ofString "whole" then some (.ref xA) else if y = Str.ofString "cut" then some (.int (k : Int) tk) else if y = Str.ofString "signs" then some (.ref Dg) else if y = Str.ofString "spelled" then some (.ref Ds) else if y = Str.ofString "numbers" then some (.ref l) else List.lookup y [(Str.ofString "script", vc)].reverse) → News h₀ L h' nw → Q .next { s with heap := h', toks := tk' }) :
    wpAny (model PySem.Challenge.pw_te0074_05 w) (ktrTop dp un gd (Str.ofString "law") sc L a ccd cl outer) (exec bd (envOf (Str.ofString "law") sc L a ccd)) Q E s := by
  conv at hb => lhs; whnf
  conv at hs => lhs; whnf
  cases hb
  subst hs
  have hlR := norm28 hR
  unfold LedIs at hK hF
  k_with_none
  k_with "tb" => (first | assumption | (apply le3; assumption; exact rfl) | lia | (simp only [List.length_append, List.length_cons, List.length_nil, List.length_take, List.length_drop, List.length_dropLast, crs_len, partOf_len] at *; lia) | ((with_reducible refine Nat.le_trans (crlf_len _) ?_); tb_start) | ((with_reducible refine Nat.le_trans (split_len _) ?_); tb_start) | ((with_reducible refine Nat.le_trans (norm_len _) ?_); tb_start))
  k_with "call builtin:str.count" => (refine count4 (by decide +kernel) (by first | assumption | lia) ?_)
  k_with "call builtin:str.rfind" => (refine rfind4 (by decide +kernel) (by first | assumption | lia) ?_)
  k_with "call builtin:str.replace" => ((try dsimp only at *); k_dflt (refine repl_crlf_S (by decide +kernel) (by decide +kernel) (by k_ne) (by k_ne) (by k_ne) (by tb_start) ?_); intro _ _ _)
  k_with "call builtin:str.replace" => ((try dsimp only at *); k_dflt (refine repl_cr_S (by decide +kernel) (by decide +kernel) (by k_ne) (by k_ne) (by k_ne) (by tb_start) ?_); intro _ _ _)
  k_with "call builtin:len" => ((with_reducible show wpAny _ _ (call (Value.builtin "len") [Value.str (S _) _]) _ _ _); refine len_S (by tb_start) ?_)
  k_with "call builtin:ord" => ((with_reducible show wpAny _ _ (call (Value.builtin "ord") [Value.str (S _) _]) _ _ _); refine ord_S ?_)
  k_with "binaryOp Add str str" => ((with_reducible show wpAny _ _ (binaryOp Operator.Add (Value.str (S _) _) (Value.str (S _) _)) _ _ _); refine add_S (by tb_start) ?_; intro _ _)
  k_with "inplaceOp Add str str" => ((with_reducible show wpAny _ _ (inplaceOp Operator.Add (Value.str (S _) _) (Value.str (S _) _)) _ _ _); refine iadd_S (by tb_start) ?_; intro _ _)
  k_with "truthy str" => ((with_reducible show wpAny _ _ (truthy (Value.str (S _) _)) _ _ _); refine truthy_S (by tb_start) ?_)
  k_with "compareOp Eq str str" => ((with_reducible show wpAny _ _ (compareOp CmpOp.Eq (Value.str (S _) _) (Value.str (S _) _)) _ _ _); refine eq_S ?_)
  k_with "compareOp NotEq str str" => ((with_reducible show wpAny _ _ (compareOp CmpOp.NotEq (Value.str (S _) _) (Value.str (S _) _)) _ _ _); refine ne_S ?_)
  k_with "subscriptTail Name Slice str ref" => (k_here; (with_reducible rename Fr _ _ _ _ => F'); (with_reducible rename News _ _ _ _ => N'); k_dflt (refine drop_S (s := ⟨_, _, _, _, _⟩) F' N' (by tb_start) ?_); intro _ _ _ _ _; (try k_sweep))
  k_with "subscriptTail Name Slice str ref" => (k_here; (with_reducible rename Fr _ _ _ _ => F'); (with_reducible rename News _ _ _ _ => N'); k_dflt (refine take_S (s := ⟨_, _, _, _, _⟩) F' N' (by tb_start) ?_); intro _ _ _ _ _; (try k_sweep))
  k_with "subscriptTail Name Slice str ref" => (k_here; (with_reducible rename Fr _ _ _ _ => F'); (with_reducible rename News _ _ _ _ => N'); k_dflt (refine mid_S (s := ⟨_, _, _, _, _⟩) F' N' (by tb_start) ?_); intro _ _ _ _ _; (try k_sweep))
  k_with "subscriptTail Name Slice str ref" => (k_here; (with_reducible rename Fr _ _ _ _ => F'); (with_reducible rename News _ _ _ _ => N'); k_dflt (refine part_S (s := ⟨_, _, _, _, _⟩) F' N' (by tb_start) ?_); intro _ _ _ _ _; (try k_sweep))
  k_with "subscriptTail Name Slice str ref" => (k_here; (with_reducible rename Fr _ _ _ _ => F'); (with_reducible rename News _ _ _ _ => N'); k_dflt (refine init_S (s := ⟨_, _, _, _, _⟩) F' N' (by tb_start) ?_); intro _ _ _ _ _; (try k_sweep))
  k_with "subscriptTail Name UnaryOp str int" => (k_here; (with_reducible show wpAny _ _ (subscriptTail _ _ (Value.str (S _) _) (Value.int _ _)) _ _ _); k_dflt (first | (refine last_S (by first | assumption | (intro hz; simp only [hz, List.length_nil] at *; lia)) (by tb_start) ?_) | (refine item_S (by first | assumption | lia | k_extra "my item") (by tb_start) ?_)))
  k_with "subscriptTail Name Name str int" => (k_here; (with_reducible show wpAny _ _ (subscriptTail _ _ (Value.str (S _) _) (Value.int _ _)) _ _ _); first | (with_reducible refine item_S (by k_dflt (first | assumption | lia | k_extra "my item")) (by k_dflt tb_start) ?_) | k_dflt (refine item_Si (by lia) (by first | lia | k_extra "my item") (by tb_start) ?_))
  k_with "subscriptTail Name Constant str int" => (k_here; (with_reducible show wpAny _ _ (subscriptTail _ _ (Value.str (S _) _) (Value.int _ _)) _ _ _); first | (with_reducible refine item_S (by k_dflt (first | assumption | lia | k_extra "my item")) (by k_dflt tb_start) ?_) | k_dflt (refine item_Si (by lia) (by first | lia | k_extra "my item") (by tb_start) ?_))
  k_with "subscriptTail Name BinOp str int" => (k_here; (with_reducible show wpAny _ _ (subscriptTail _ _ (Value.str (S _) _) (Value.int _ _)) _ _ _); first | (with_reducible refine item_S (by k_dflt (first | assumption | lia | k_extra "my item")) (by k_dflt tb_start) ?_) | k_dflt (refine item_Si (by lia) (by first | lia | k_extra "my item") (by tb_start) ?_))
  k_with "subscriptTail Attribute Name str int" => (k_here; (with_reducible show wpAny _ _ (subscriptTail _ _ (Value.str (S _) _) (Value.int _ _)) _ _ _); first | (with_reducible refine item_S (by k_dflt (first | assumption | lia | k_extra "my item")) (by k_dflt tb_start) ?_) | k_dflt (refine item_Si (by lia) (by first | lia | k_extra "my item") (by tb_start) ?_))
  k_with "subscriptTail Attribute Constant str int" => (k_here; (with_reducible show wpAny _ _ (subscriptTail _ _ (Value.str (S _) _) (Value.int _ _)) _ _ _); first | (with_reducible refine item_S (by k_dflt (first | assumption | lia | k_extra "my item")) (by k_dflt tb_start) ?_) | k_dflt (refine item_Si (by lia) (by first | lia | k_extra "my item") (by tb_start) ?_))
  k_with "subscriptTail Attribute Attribute str int" => (k_here; (with_reducible show wpAny _ _ (subscriptTail _ _ (Value.str (S _) _) (Value.int _ _)) _ _ _); first | (with_reducible refine item_S (by k_dflt (first | assumption | lia | k_extra "my item")) (by k_dflt tb_start) ?_) | k_dflt (refine item_Si (by lia) (by first | lia | k_extra "my item") (by tb_start) ?_))
  k_with "truthy ref" => (k_here; k_dflt (refine' truthy_meth ?N ?q ?_; (case N => k_asm); (case q => k_mem); k_whole))
  k_with "exec For Name Name cons nil" => (k_here; (with_reducible rename Fr _ _ _ _ => lF'); k_dflt (refine' For_invVF lF' ?k1 ?k2 ?_; (case k1 => exact rfl); (case k2 => exact rfl); k_whole))
  k_with "exec For Name Subscript cons nil" => (k_here; (with_reducible rename Fr _ _ _ _ => lF'); k_dflt (refine' For_invVF lF' ?k1 ?k2 ?_; (case k1 => exact rfl); (case k2 => exact rfl); k_whole))
  k_with "all" => (refine List.forall_mem_append.mpr ⟨?a, ?b⟩; (case a => k_all); (case b => k_all))
  k_with "rel" => (simp only [List.size_toArray]; rw [PySem.sizeLine_eq]; lia)
  k_with "call builtin:list.append" => (k_here; (with_reducible show wpAny _ _ (call (Value.builtin _) [Value.ref _, _]) _ _ _); k_dflt (refine' append_K ?k1 ?k2 ?k3 ?_ ?z; (case k1 => k_asm); (case k2 => k_asm); (case k3 => k_upd); (case z => tb_rel); k_whole); intro h' F' N'; (try simp only [List.push_toArray] at N'); (try k_sweep))
  k_with "enter" => (refine' code_def ?k1 ?k2 ?k3 ?k4 ?k5 ?kA ?kF ?kK ?k6 ?k7 ?k8 ?k9 ?kB ?_ ?c2 ?c3 ?c4 ?c5; (case kA => exact rfl); (case kF => exact rfl); (case kK => assumption); (case k1 => k_asm); (case k2 => k_asm); (case k3 => k_asm); (case k4 => k_asm); (case k5 => k_asm); (case k6 => k_is); (case k7 => k_is); (case k8 => ktr_room); (case k9 => first | exact BindsTo.of_eq rfl | exact binds_K (by k_in) rfl (by k_is) rfl rfl rfl); (case c5 => decide); (case kB => exact locs rfl); (case c2 => exact rfl); (case c3 => exact rfl); (case c4 => exact rfl); k_whole; intro g' L' h' FG' F' N' B' X' T'; (try dsimp only); (try k_lift B'); (try k_fold))
  k_with "JoinP" => (dsimp only [JoinP])
  k_with "subscriptTail" => (k_here; (with_reducible show wpAny _ _ (subscriptTail _ _ (Value.str (S _) _) (Value.int _ _)) _ _ _); first | (with_reducible refine item_S (by k_dflt (first | assumption | lia | k_extra "my item")) (by k_dflt tb_start) ?_) | k_dflt (refine item_Si (by lia) (by first | lia | k_extra "my item") (by tb_start) ?_))
  k_with "compareOp Eq str str" => ((with_reducible show wpAny _ _ (compareOp CmpOp.Eq (Value.str (S _) _) (Value.str (Str.ofString _) _)) _ _ _); k_dflt (first | refine eq_lit [13] (by decide +kernel) ?_ | refine eq_lit [10] (by decide +kernel) ?_))
  k_with "compareOp NotEq str str" => ((with_reducible show wpAny _ _ (compareOp CmpOp.NotEq (Value.str (S _) _) (Value.str (Str.ofString _) _)) _ _ _); k_dflt (first | refine ne_lit [13] (by decide +kernel) ?_ | refine ne_lit [10] (by decide +kernel) ?_))
  k_with "inplaceOp Add str str" => ((with_reducible show wpAny _ _ (inplaceOp Operator.Add (Value.str (S _) _) (Value.str (Str.ofString _) _)) _ _ _); k_dflt (refine iadd_lit [10] (by decide +kernel) (by tb_start) ?_); intro _ _)
  k_with "room" => (k_dflt ((first | apply room4 | apply room3 | apply room2 | apply room1 | apply room0 | apply roomz); assumption; exact rfl))
  k_with "getAttr ref" => ((with_reducible show wpAny _ _ (getAttr (Value.ref _) (Str.ofString "errors") _) _ _ _); k_dflt (refine g_errors (by assumption) (by k_asm) (by k_asm) ?N ?_; (case N => first | k_asm | exact News.sub (by k_asm) (fun q hq => LedR.mem_rest (by assumption) hq) | exact News.sub (News.tl (by k_asm)) (fun q hq => LedR.mem_rest (by assumption) hq) | exact News.sub (News.tl (News.tl (by k_asm))) (fun q hq => LedR.mem_rest (by assumption) hq) | exact News.tl (by k_asm) | exact News.tl (News.tl (by k_asm)) | exact News.tl (News.tl (News.tl (by k_asm))))); intro _ hE1)
  k_with "getMethod ref" => ((with_reducible show wpAny _ _ (getMethod (Value.ref _) (Str.ofString "position") _) _ _ _); k_dflt (refine m_pos (by assumption) (by k_asm) (by k_asm) ?N ?_; (case N => first | k_asm | exact News.sub (by k_asm) (fun q hq => LedR.mem_rest (by assumption) hq) | exact News.sub (News.tl (by k_asm)) (fun q hq => LedR.mem_rest (by assumption) hq) | exact News.sub (News.tl (News.tl (by k_asm))) (fun q hq => LedR.mem_rest (by assumption) hq) | exact News.tl (by k_asm) | exact News.tl (News.tl (by k_asm)) | exact News.tl (News.tl (News.tl (by k_asm))))))
  k_with "getMethod ref" => ((with_reducible show wpAny _ _ (getMethod (Value.ref _) (Str.ofString "char") _) _ _ _); k_dflt (refine m_char (by assumption) (by k_asm) (by k_asm) ?N ?_; (case N => first | k_asm | exact News.sub (by k_asm) (fun q hq => LedR.mem_rest (by assumption) hq) | exact News.sub (News.tl (by k_asm)) (fun q hq => LedR.mem_rest (by assumption) hq) | exact News.sub (News.tl (News.tl (by k_asm))) (fun q hq => LedR.mem_rest (by assumption) hq) | exact News.tl (by k_asm) | exact News.tl (News.tl (by k_asm)) | exact News.tl (News.tl (News.tl (by k_asm))))))
  k_with "getMethod ref" => ((with_reducible show wpAny _ _ (getMethod (Value.ref _) (Str.ofString "readChunk") _) _ _ _); k_dflt (refine m_chunk (by assumption) (by k_asm) (by k_asm) ?N ?_; (case N => first | k_asm | exact News.sub (by k_asm) (fun q hq => LedR.mem_rest (by assumption) hq) | exact News.sub (News.tl (by k_asm)) (fun q hq => LedR.mem_rest (by assumption) hq) | exact News.sub (News.tl (News.tl (by k_asm))) (fun q hq => LedR.mem_rest (by assumption) hq) | exact News.tl (by k_asm) | exact News.tl (News.tl (by k_asm)) | exact News.tl (News.tl (News.tl (by k_asm))))))
  k_with "getMethod ref" => ((with_reducible show wpAny _ _ (getMethod (Value.ref _) (Str.ofString "unget") _) _ _ _); k_dflt (refine m_unget (by assumption) (by k_asm) (by k_asm) ?N ?_; (case N => first | k_asm | exact News.sub (by k_asm) (fun q hq => LedR.mem_rest (by assumption) hq) | exact News.sub (News.tl (by k_asm)) (fun q hq => LedR.mem_rest (by assumption) hq) | exact News.sub (News.tl (News.tl (by k_asm))) (fun q hq => LedR.mem_rest (by assumption) hq) | exact News.tl (by k_asm) | exact News.tl (News.tl (by k_asm)) | exact News.tl (News.tl (News.tl (by k_asm))))))
  k_with "getMethod ref" => ((with_reducible show wpAny _ _ (getMethod (Value.ref _) (Str.ofString "charsUntil") _) _ _ _); k_dflt (refine m_until (by assumption) (by k_asm) (by k_asm) ?N ?_; (case N => first | k_asm | exact News.sub (by k_asm) (fun q hq => LedR.mem_rest (by assumption) hq) | exact News.sub (News.tl (by k_asm)) (fun q hq => LedR.mem_rest (by assumption) hq) | exact News.sub (News.tl (News.tl (by k_asm))) (fun q hq => LedR.mem_rest (by assumption) hq) | exact News.tl (by k_asm) | exact News.tl (News.tl (by k_asm)) | exact News.tl (News.tl (News.tl (by k_asm))))))
  k_with "subscriptTail Name Slice ref ref" => ((with_reducible rename Fr _ _ _ _ => F9); (with_reducible rename News _ _ _ _ => N9); k_dflt (refine' take_sg (b := k) (s := ⟨_, _, _, _, _⟩) F9 N9 (News.isList N9 (LedR.mem_rest hF (LedR.mem_rest hK hm))) hG hk (le3 hlR rfl) ?_); (clear F9 N9); (intro Dm wm hm' Fm Nm l1m hSm))
  repeat' ((fail_if_success (with_reducible show wpAny _ _ (pyIter _) _ _ _)); first | (k_unfold; (try dsimp only)) | (k_end; wrow_close) | walk1 | (dsimp only; walk1) | (leave1; try dsimp only))
  (rename Fr _ _ _ _ => F9)
  (obtain ⟨Dq, hDq, n2, hL2, N2, _⟩ := LedR.push3 (o := W.listOf wm.toArray 0) hF l1m Nm); subst hDq
  clear Nm hF
  have htk : ((norm R).take k).length = k := by rw [List.length_take, Nat.min_eq_left hk]
  have hwl := sg_len hSm
  k_dflt (refine loop_Lm (env := envOf (Str.ofString "law") _ L a ccd) (fun m₀ i m' nx => ∃ (st' : St) (u : Option Value), InvG True R st' i ∧ LedR w R ((Dq, W.listOf wm.toArray 0) :: nK) adA xA st'.chunk (st'.chunk.length : Int) (st'.off : Int) st'.errs (st'.pl : Int) (st'.pc : Int) st'.buf (st'.place : Int) nx ∧ m' = fun z => if z = Str.ofString "sign" then u else m₀ z) (by rfl) (LedR.mem_rest hL2 (.head _)) F9 N2 ?_ ?_ ?_)
  · obtain ⟨u, hu⟩ := mix1 (Str.ofString "sign") _
    exact ⟨stA, u, hi, hL2, hu⟩
  · intro i v m₁ nx h tk own hv hadr hown hlm hJ F' N'
    obtain ⟨st', u, hi', hL', rfl⟩ := hJ
    have hik : i < k := by
      have := (List.getElem?_eq_some_iff.mp hv).1
      rw [hwl, htk] at this
      exact this
    obtain ⟨c, tc, hc, rfl⟩ := sg_at hSm hv
    have hiR : i < (norm R).length := Nat.lt_of_lt_of_le hik hk
    obtain ⟨st1, c1, c2, c3, _⟩ := invG_char hi' hR.plain hiR
    have hcc : (norm R).getD i 0 = c := by
      rw [List.getElem?_take_of_lt hik] at hc
      rw [List.getD_eq_getElem?_getD, hc]; rfl
    rw [hcc] at c1
    obtain ⟨o1, o2, o3, o4, o5⟩ := invG_ok hi' hR.len3
    have ha := LedR.addr hL2
    rw [ha] at hown
    have hLA := LedR.app hL' (fun z hz b hb => hown z hz b (List.mem_append.mpr (.inl hb)))
    clear hL'
    k_with "call ref" => ((with_reducible show wpAny _ _ (call (Value.ref 98) _) _ _ _); k_dflt ((refine' Spec.useS (char_some c1 (char_spec (st := st') hLA o1 o2 o3 o4)) ?B ?F ?X ?N ?T ?hk ?hd ?hu ?_; (case B => k_asm); (case F => k_asm); (case X => k_asm); (case T => k_asm); (case hk => first | exact rfl | assumption); (case N => first | k_asm | exact News.tl (by k_asm) | exact News.tl (News.tl (by k_asm)) | exact News.tl (News.tl (News.tl (by k_asm)))); (case hd => ktr_room); (case hu => ktr_units); intro t' n' h' tk' hF9 hle' F' N'); (clear hLA); (unfold LedIs at hF9); (try dsimp only); (try k_fold)))
    k_with "compareOp NotEq str str" => ((with_reducible show wpAny _ _ (compareOp CmpOp.NotEq (Value.str (S _) _) (Value.str (S _) _)) _ _ _); k_dflt (refine ne_no rfl ?_))
    (try dsimp only)
    (try k_fold)
    k_steps
    all_goals (
      rename Fr _ _ _ _ => F9
      rename News _ _ _ _ => N9
      exact led_end F9 N9 hF9 (by rw [ha]) (fun nx hnx => ⟨LedR.mem_rest hnx (.head _), st1, _, c2, hnx, funext fun z => (Decidable.em (z = Str.ofString "sign")).elim (fun hz => (if_pos hz).trans (if_pos hz).symm) (fun hz => (if_neg hz).trans ((if_neg hz).trans (if_neg hz).symm))⟩))
  · intro m₁ nx h tk hlm hJ F' N'
    obtain ⟨st', u, hi', hL', rfl⟩ := hJ
    rw [hwl, htk] at hi'
    obtain ⟨n3, hL3, hsub⟩ := LedR.pop hL'
    (try dsimp only)
    (try k_fold)
    k_steps
    all_goals exact hret _ _ st' n3 u hi' hL3 F' (News.sub N' hsub)
end
theorem led_push2 {w : World} {RA RB : List Nat} {r0 nK news : List (Addr × Obj)} {adA adB : List Nat} {xA xB : Nat} {ckA ckB : List Nat} {szA ofA szB ofB : Int} {erA erB : Nat} {plA pcA plB pcB : Int} {bfA bfB : Option Nat} {paA paB : Int} {h₀ g : Heap} {L : Addr} {D : Nat} {o : Obj}
    (hK : LedR w RA r0 adA xA ckA szA ofA erA plA pcA bfA paA nK) (hF : LedR w RB nK adB xB ckB szB ofB erB plB pcB bfB paB news) (hl : ∀ p ∈ news, p.1 < D) (N : News h₀ L g ((D, o) :: news)) :
    ∃ nK' n', LedR w RA ((D, o) :: r0) adA xA ckA szA ofA erA plA pcA bfA paA nK' ∧ LedR w RB nK' adB xB ckB szB ofB erB plB pcB bfB paB n' ∧ News h₀ L g n' := by
  have hOK := hK.off
  have hOF := hF.off
  obtain ⟨nB7, hB7, rfl⟩ := LedR.part (rest := []) (own := nK) hF
  obtain ⟨nA7, hA7, rfl⟩ := LedR.part (rest := []) (own := r0) hK
  have eA := hA7.addr
  have eB := hB7.addr
  have hDA : ∀ b ∈ adA, D ≠ b := fun b hb => by
    have : b ∈ nA7.map (·.1) := by rw [eA]; simpa using hb
    obtain ⟨z, hz, rfl⟩ := List.mem_map.mp this
    exact Nat.ne_of_gt (hl z (List.mem_append.mpr (.inr (List.mem_append.mpr (.inl hz)))))
  have hDB : ∀ b ∈ adB, D ≠ b := fun b hb => by
    have : b ∈ nB7.map (·.1) := by rw [eB]; simpa using hb
    obtain ⟨z, hz, rfl⟩ := List.mem_map.mp this
    exact Nat.ne_of_gt (hl z (List.mem_append.mpr (.inl hz)))
  refine ⟨nA7 ++ (D, o) :: r0, nB7 ++ (nA7 ++ (D, o) :: r0), LedR.app (rest := []) hA7 (fun z hz b hb => ?_), LedR.app (rest := []) hB7 (fun z hz b hb => ?_), fun z hz => N z ?_⟩
  · rcases List.mem_cons.mp hz with rfl | hz
    · exact hDA b hb
    · exact hOK z hz b hb
  · rcases mem_mid.mp hz with rfl | hz
    · exact hDB b hb
    · exact hOF z hz b hb
  · rcases List.mem_append.mp hz with hz | hz
    · exact .tail _ (List.mem_append.mpr (.inl hz))
    · rcases mem_mid.mp hz with rfl | hz
      · exact .head _
      · exact .tail _ (List.mem_append.mpr (.inr hz))
section
variable {w : World} {mean : ExcName → Option Value} {mg mb : Str → Option Value} {R R2 : List Nat} {r0 nK news : List (Addr × Obj)} {adA adB : List Nat} {xA xB : Nat} {stA stB : St} {l Ds Dg : Addr} {es ss gs : List Value} {nn n1 ng : Nat} {ns : List Int} {vc : Value} {k : Nat} {q : Nat × Nat} {tk tq1 tq2 : Tok} {us : Option Value}
set_option maxRecDepth 100000 in
set_option maxHeartbeats 4000000 in
theorem s8 (hK : LedIs w R2 r0 adB xB stB nK) (hF : LedIs w R nK adA xA stA news) (hm : (Dg, W.listOf gs.toArray ng) ∈ r0) (hG : StrsAre gs (sg (norm R))) (hR : Raw5 R) (hk : k ≤ (norm R).length) (hq : q = ((norm R).take k).foldl adv (1, 0))
    (bd : Stmt) (tl : List Stmt) (sc : Scope) (hb : lawB.drop 8 = bd :: tl) (hs : lawSc = sc)
    (dp un : Nat) (gd : Option (List Code)) (a : Addr) (ccd : Value) (cl : List (Str × Addr)) (outer : List Env) (A₀ : Around) (base h₀ : Heap) (L : Addr) (s : Shared) (Q : Flow → Shared → Prop) (E : Value → Shared → Prop)
    (B : Below A₀ base outer h₀) (F : Fr h₀ L s.heap (fun y => if y = Str.ofString "sign" then us else if y = Str.ofString "rest" then some (.ref xB) else if y = Str.ofString "whole" then some (.ref xA) else if y = Str.ofString "cut" then some (.int (k : Int) tk) else if y = Str.ofString "signs" then some (.ref Dg) else if y = Str.ofString "spelled" then some (.ref Ds) else if y = Str.ofString "numbers" then some (.ref l) else List.lookup y [(Str.ofString "script", vc)].reverse))
    (X : (hd05.heap_39 w.params).In h₀) (N : News h₀ L s.heap news) (T : Top hd05.view_39 loose mean mg mb h₀) (hd : dp + 100 < recursionLimit) (hu : un + 800 < cLine) (hE : PassesOwn (model PySem.Challenge.pw_te0074_05 w) (ktrTop dp un gd (Str.ofString "law") sc L a ccd cl outer) (envOf (Str.ofString "law") sc L a ccd) E)
    (hret : ∀ h' tk' tq1 tq2, Fr h₀ L h' (fun y => if y = Str.ofString "columns" then some (.int (q.2 : Int) tq2) else if y = Str.ofString "lines" then some (.int (q.1 : Int) tq1) else if y = Str.ofString "sign" then us else if y = Str.ofString "rest" then some (.ref xB) else if y = Str.ofString "whole" then some (.ref xA) else if y = Str.ofString "cut" then some (.int (k : Int) tk) else if y = Str.ofString "signs" then some (.ref Dg) else if y = Str.ofString "spelled" then some (.ref Ds) else if y = Str.ofString "numbers" then some (.ref l) else List.lookup y [(Str.ofString "script", vc)].reverse) → News h₀ L h' news → Q .next { s with heap := h', toks := tk' }) :
    wpAny (model PySem.Challenge.pw_te0074_05 w) (ktrTop dp un gd (Str.ofString "law") sc L a ccd cl outer) (exec bd (envOf (Str.ofString "law") sc L a ccd)) Q E s := by
  conv at hb => lhs; whnf
  conv at hs => lhs; whnf
  cases hb
  subst hs
  have hlR := norm28 hR
  have htk : ((norm R).take k).length ≤ 1000 := Nat.le_trans (List.length_take_le' _ _) (le3 hlR rfl)
  unfold LedIs at hK hF
  k_with_none
  k_with "tb" => (first | assumption | (apply le3; assumption; exact rfl) | lia | (simp only [List.length_append, List.length_cons, List.length_nil, List.length_take, List.length_drop, List.length_dropLast, crs_len, partOf_len] at *; lia) | ((with_reducible refine Nat.le_trans (crlf_len _) ?_); tb_start) | ((with_reducible refine Nat.le_trans (split_len _) ?_); tb_start) | ((with_reducible refine Nat.le_trans (norm_len _) ?_); tb_start))
  k_with "call builtin:str.count" => (refine count4 (by decide +kernel) (by first | assumption | lia) ?_)
  k_with "call builtin:str.rfind" => (refine rfind4 (by decide +kernel) (by first | assumption | lia) ?_)
  k_with "call builtin:str.replace" => ((try dsimp only at *); k_dflt (refine repl_crlf_S (by decide +kernel) (by decide +kernel) (by k_ne) (by k_ne) (by k_ne) (by tb_start) ?_); intro _ _ _)
  k_with "call builtin:str.replace" => ((try dsimp only at *); k_dflt (refine repl_cr_S (by decide +kernel) (by decide +kernel) (by k_ne) (by k_ne) (by k_ne) (by tb_start) ?_); intro _ _ _)
  k_with "call builtin:len" => ((with_reducible show wpAny _ _ (call (Value.builtin "len") [Value.str (S _) _]) _ _ _); refine len_S (by tb_start) ?_)
  k_with "call builtin:ord" => ((with_reducible show wpAny _ _ (call (Value.builtin "ord") [Value.str (S _) _]) _ _ _); refine ord_S ?_)
  k_with "binaryOp Add str str" => ((with_reducible show wpAny _ _ (binaryOp Operator.Add (Value.str (S _) _) (Value.str (S _) _)) _ _ _); refine add_S (by tb_start) ?_; intro _ _)
  k_with "inplaceOp Add str str" => ((with_reducible show wpAny _ _ (inplaceOp Operator.Add (Value.str (S _) _) (Value.str (S _) _)) _ _ _); refine iadd_S (by tb_start) ?_; intro _ _)
  k_with "truthy str" => ((with_reducible show wpAny _ _ (truthy (Value.str (S _) _)) _ _ _); refine truthy_S (by tb_start) ?_)
  k_with "compareOp Eq str str" => ((with_reducible show wpAny _ _ (compareOp CmpOp.Eq (Value.str (S _) _) (Value.str (S _) _)) _ _ _); refine eq_S ?_)
  k_with "compareOp NotEq str str" => ((with_reducible show wpAny _ _ (compareOp CmpOp.NotEq (Value.str (S _) _) (Value.str (S _) _)) _ _ _); refine ne_S ?_)
  k_with "subscriptTail Name Slice str ref" => (k_here; (with_reducible rename Fr _ _ _ _ => F'); (with_reducible rename News _ _ _ _ => N'); k_dflt (refine drop_S (s := ⟨_, _, _, _, _⟩) F' N' (by tb_start) ?_); intro _ _ _ _ _; (try k_sweep))
  k_with "subscriptTail Name Slice str ref" => (k_here; (with_reducible rename Fr _ _ _ _ => F'); (with_reducible rename News _ _ _ _ => N'); k_dflt (refine take_S (s := ⟨_, _, _, _, _⟩) F' N' (by tb_start) ?_); intro _ _ _ _ _; (try k_sweep))
  k_with "subscriptTail Name Slice str ref" => (k_here; (with_reducible rename Fr _ _ _ _ => F'); (with_reducible rename News _ _ _ _ => N'); k_dflt (refine mid_S (s := ⟨_, _, _, _, _⟩) F' N' (by tb_start) ?_); intro _ _ _ _ _; (try k_sweep))
  k_with "subscriptTail Name Slice str ref" => (k_here; (with_reducible rename Fr _ _ _ _ => F'); (with_reducible rename News _ _ _ _ => N'); k_dflt (refine part_S (s := ⟨_, _, _, _, _⟩) F' N' (by tb_start) ?_); intro _ _ _ _ _; (try k_sweep))
  k_with "subscriptTail Name Slice str ref" => (k_here; (with_reducible rename Fr _ _ _ _ => F'); (with_reducible rename News _ _ _ _ => N'); k_dflt (refine init_S (s := ⟨_, _, _, _, _⟩) F' N' (by tb_start) ?_); intro _ _ _ _ _; (try k_sweep))
  k_with "subscriptTail Name UnaryOp str int" => (k_here; (with_reducible show wpAny _ _ (subscriptTail _ _ (Value.str (S _) _) (Value.int _ _)) _ _ _); k_dflt (first | (refine last_S (by first | assumption | (intro hz; simp only [hz, List.length_nil] at *; lia)) (by tb_start) ?_) | (refine item_S (by first | assumption | lia | k_extra "my item") (by tb_start) ?_)))
  k_with "subscriptTail Name Name str int" => (k_here; (with_reducible show wpAny _ _ (subscriptTail _ _ (Value.str (S _) _) (Value.int _ _)) _ _ _); first | (with_reducible refine item_S (by k_dflt (first | assumption | lia | k_extra "my item")) (by k_dflt tb_start) ?_) | k_dflt (refine item_Si (by lia) (by first | lia | k_extra "my item") (by tb_start) ?_))
  k_with "subscriptTail Name Constant str int" => (k_here; (with_reducible show wpAny _ _ (subscriptTail _ _ (Value.str (S _) _) (Value.int _ _)) _ _ _); first | (with_reducible refine item_S (by k_dflt (first | assumption | lia | k_extra "my item")) (by k_dflt tb_start) ?_) | k_dflt (refine item_Si (by lia) (by first | lia | k_extra "my item") (by tb_start) ?_))
  k_with "subscriptTail Name BinOp str int" => (k_here; (with_reducible show wpAny _ _ (subscriptTail _ _ (Value.str (S _) _) (Value.int _ _)) _ _ _); first | (with_reducible refine item_S (by k_dflt (first | assumption | lia | k_extra "my item")) (by k_dflt tb_start) ?_) | k_dflt (refine item_Si (by lia) (by first | lia | k_extra "my item") (by tb_start) ?_))
  k_with "subscriptTail Attribute Name str int" => (k_here; (with_reducible show wpAny _ _ (subscriptTail _ _ (Value.str (S _) _) (Value.int _ _)) _ _ _); first | (with_reducible refine item_S (by k_dflt (first | assumption | lia | k_extra "my item")) (by k_dflt tb_start) ?_) | k_dflt (refine item_Si (by lia) (by first | lia | k_extra "my item") (by tb_start) ?_))
  k_with "subscriptTail Attribute Constant str int" => (k_here; (with_reducible show wpAny _ _ (subscriptTail _ _ (Value.str (S _) _) (Value.int _ _)) _ _ _); first | (with_reducible refine item_S (by k_dflt (first | assumption | lia | k_extra "my item")) (by k_dflt tb_start) ?_) | k_dflt (refine item_Si (by lia) (by first | lia | k_extra "my item") (by tb_start) ?_))
  k_with "subscriptTail Attribute Attribute str int" => (k_here; (with_reducible show wpAny _ _ (subscriptTail _ _ (Value.str (S _) _) (Value.int _ _)) _ _ _); first | (with_reducible refine item_S (by k_dflt (first | assumption | lia | k_extra "my item")) (by k_dflt tb_start) ?_) | k_dflt (refine item_Si (by lia) (by first | lia | k_extra "my item") (by tb_start) ?_))
  k_with "truthy ref" => (k_here; k_dflt (refine' truthy_meth ?N ?q ?_; (case N => k_asm); (case q => k_mem); k_whole))
  k_with "exec For Name Name cons nil" => (k_here; (with_reducible rename Fr _ _ _ _ => lF'); k_dflt (refine' For_invVF lF' ?k1 ?k2 ?_; (case k1 => exact rfl); (case k2 => exact rfl); k_whole))
  k_with "exec For Name Subscript cons nil" => (k_here; (with_reducible rename Fr _ _ _ _ => lF'); k_dflt (refine' For_invVF lF' ?k1 ?k2 ?_; (case k1 => exact rfl); (case k2 => exact rfl); k_whole))
  k_with "all" => (refine List.forall_mem_append.mpr ⟨?a, ?b⟩; (case a => k_all); (case b => k_all))
  k_with "rel" => (simp only [List.size_toArray]; rw [PySem.sizeLine_eq]; lia)
  k_with "call builtin:list.append" => (k_here; (with_reducible show wpAny _ _ (call (Value.builtin _) [Value.ref _, _]) _ _ _); k_dflt (refine' append_K ?k1 ?k2 ?k3 ?_ ?z; (case k1 => k_asm); (case k2 => k_asm); (case k3 => k_upd); (case z => tb_rel); k_whole); intro h' F' N'; (try simp only [List.push_toArray] at N'); (try k_sweep))
  k_with "enter" => (refine' code_def ?k1 ?k2 ?k3 ?k4 ?k5 ?kA ?kF ?kK ?k6 ?k7 ?k8 ?k9 ?kB ?_ ?c2 ?c3 ?c4 ?c5; (case kA => exact rfl); (case kF => exact rfl); (case kK => assumption); (case k1 => k_asm); (case k2 => k_asm); (case k3 => k_asm); (case k4 => k_asm); (case k5 => k_asm); (case k6 => k_is); (case k7 => k_is); (case k8 => ktr_room); (case k9 => first | exact BindsTo.of_eq rfl | exact binds_K (by k_in) rfl (by k_is) rfl rfl rfl); (case c5 => decide); (case kB => exact locs rfl); (case c2 => exact rfl); (case c3 => exact rfl); (case c4 => exact rfl); k_whole; intro g' L' h' FG' F' N' B' X' T'; (try dsimp only); (try k_lift B'); (try k_fold))
  k_with "JoinP" => (dsimp only [JoinP])
  k_with "subscriptTail" => (k_here; (with_reducible show wpAny _ _ (subscriptTail _ _ (Value.str (S _) _) (Value.int _ _)) _ _ _); first | (with_reducible refine item_S (by k_dflt (first | assumption | lia | k_extra "my item")) (by k_dflt tb_start) ?_) | k_dflt (refine item_Si (by lia) (by first | lia | k_extra "my item") (by tb_start) ?_))
  k_with "compareOp Eq str str" => ((with_reducible show wpAny _ _ (compareOp CmpOp.Eq (Value.str (S _) _) (Value.str (Str.ofString _) _)) _ _ _); k_dflt (first | refine eq_lit [13] (by decide +kernel) ?_ | refine eq_lit [10] (by decide +kernel) ?_))
  k_with "compareOp NotEq str str" => ((with_reducible show wpAny _ _ (compareOp CmpOp.NotEq (Value.str (S _) _) (Value.str (Str.ofString _) _)) _ _ _); k_dflt (first | refine ne_lit [13] (by decide +kernel) ?_ | refine ne_lit [10] (by decide +kernel) ?_))
  k_with "inplaceOp Add str str" => ((with_reducible show wpAny _ _ (inplaceOp Operator.Add (Value.str (S _) _) (Value.str (Str.ofString _) _)) _ _ _); k_dflt (refine iadd_lit [10] (by decide +kernel) (by tb_start) ?_); intro _ _)
  k_with "room" => (k_dflt ((first | apply room4 | apply room3 | apply room2 | apply room1 | apply room0 | apply roomz); assumption; exact rfl))
  k_with "subscriptTail Name Slice ref ref" => ((with_reducible rename Fr _ _ _ _ => F9); (with_reducible rename News _ _ _ _ => N9); k_dflt (refine' take_sg (b := k) (s := ⟨_, _, _, _, _⟩) F9 N9 (News.isList N9 (LedR.mem_rest hF (LedR.mem_rest hK hm))) hG hk (le3 hlR rfl) ?_); (clear F9 N9); (intro Dm wm hm' Fm Nm l1m hSm))
  k_with "call ref" => ((with_reducible show wpAny _ _ (call (Value.ref 157) _) _ _ _); k_dflt ((refine' Spec.usePos (counted_spec ((norm R).take k) htk ?hgm hSm) hq.symm ?B ?F ?X ?N ?T ?hk ?hd ?hu ?_); (case B => k_asm); (case F => k_asm); (case X => k_asm); (case T => k_asm); (case hk => first | exact rfl | assumption); (case N => first | k_asm | exact News.tl (by k_asm) | exact News.tl (News.tl (by k_asm)) | exact News.tl (News.tl (News.tl (by k_asm)))); (case hd => ktr_room); (case hu => ktr_units); (case hgm => exact .head _); intro DZ tz1 tz2 h' tk' hltZ hle' F' N'; (try k_lt hltZ); (try dsimp only); (try k_fold)))
  k_steps
  all_goals (
    rename Fr _ _ _ _ => F9
    rename News _ _ _ _ => N9
    exact hret _ _ _ _ F9 (News.tl (News.tl N9)))
set_option maxRecDepth 100000 in
set_option maxHeartbeats 4000000 in
theorem s9 (hK : LedIs w R2 r0 adB xB stB nK) (hF : LedIs w R nK adA xA stA news) (hR : Raw5 R) (hi : InvG True R stA k) (hq : q = ((norm R).take k).foldl adv (1, 0))
    (bd : Stmt) (tl : List Stmt) (sc : Scope) (hb : lawB.drop 9 = bd :: tl) (hs : lawSc = sc)
    (dp un : Nat) (gd : Option (List Code)) (a : Addr) (ccd : Value) (cl : List (Str × Addr)) (outer : List Env) (A₀ : Around) (base h₀ : Heap) (L : Addr) (s : Shared) (Q : Flow → Shared → Prop) (E : Value → Shared → Prop)
    (B : Below A₀ base outer h₀) (F : Fr h₀ L s.heap (fun y => if y = Str.ofString "columns" then some (.int (q.2 : Int) tq2) else if y = Str.ofString "lines" then some (.int (q.1 : Int) tq1) else if y = Str.ofString "sign" then us else if y = Str.ofString "rest" then some (.ref xB) else if y = Str.ofString "whole" then some (.ref xA) else if y = Str.ofString "cut" then some (.int (k : Int) tk) else if y = Str.ofString "signs" then some (.ref Dg) else if y = Str.ofString "spelled" then some (.ref Ds) else if y = Str.ofString "numbers" then some (.ref l) else List.lookup y [(Str.ofString "script", vc)].reverse))
    (X : (hd05.heap_39 w.params).In h₀) (N : News h₀ L s.heap news) (T : Top hd05.view_39 loose mean mg mb h₀) (hd : dp + 100 < recursionLimit) (hu : un + 800 < cLine) (hE : PassesOwn (model PySem.Challenge.pw_te0074_05 w) (ktrTop dp un gd (Str.ofString "law") sc L a ccd cl outer) (envOf (Str.ofString "law") sc L a ccd) E)
    (hret : ∀ h' tk' nw, LedIs w R nK adA xA stA nw → Fr h₀ L h' (fun y => if y = Str.ofString "columns" then some (.int (q.2 : Int) tq2) else if y = Str.ofString "lines" then some (.int (q.1 : Int) tq1) else if y = Str.ofString "sign" then us else if y = Str.ofString "rest" then some (.ref xB) else if y = Str.ofString "whole" then some (.ref xA) else if y = Str.ofString "cut" then some (.int (k : Int) tk) else if y = Str.ofString "signs" then some (.ref Dg) else if y = Str.ofString "spelled" then some (.ref Ds) else if y = Str.ofString "numbers" then some (.ref l) else List.lookup y [(Str.ofString "script", vc)].reverse) → News h₀ L h' nw → Q .next { s with heap := h', toks := tk' }) :
    wpAny (model PySem.Challenge.pw_te0074_05 w) (ktrTop dp un gd (Str.ofString "law") sc L a ccd cl outer) (exec bd (envOf (Str.ofString "law") sc L a ccd)) Q E s := by
  conv at hb => lhs; whnf
  conv at hs => lhs; whnf
  cases hb
  subst hs
  obtain ⟨a1, a2, a3, a4, a5⟩ := invG_ok hi hR.len3
  have eA := (invG_spot hi).symm.trans hq.symm
  unfold LedIs at hK hF
  k_with_none
  k_with "tb" => (first | assumption | (apply le3; assumption; exact rfl) | lia | (simp only [List.length_append, List.length_cons, List.length_nil, List.length_take, List.length_drop, List.length_dropLast, crs_len, partOf_len] at *; lia) | ((with_reducible refine Nat.le_trans (crlf_len _) ?_); tb_start) | ((with_reducible refine Nat.le_trans (split_len _) ?_); tb_start) | ((with_reducible refine Nat.le_trans (norm_len _) ?_); tb_start))
  k_with "call builtin:str.count" => (refine count4 (by decide +kernel) (by first | assumption | lia) ?_)
  k_with "call builtin:str.rfind" => (refine rfind4 (by decide +kernel) (by first | assumption | lia) ?_)
  k_with "call builtin:str.replace" => ((try dsimp only at *); k_dflt (refine repl_crlf_S (by decide +kernel) (by decide +kernel) (by k_ne) (by k_ne) (by k_ne) (by tb_start) ?_); intro _ _ _)
  k_with "call builtin:str.replace" => ((try dsimp only at *); k_dflt (refine repl_cr_S (by decide +kernel) (by decide +kernel) (by k_ne) (by k_ne) (by k_ne) (by tb_start) ?_); intro _ _ _)
  k_with "call builtin:len" => ((with_reducible show wpAny _ _ (call (Value.builtin "len") [Value.str (S _) _]) _ _ _); refine len_S (by tb_start) ?_)
  k_with "call builtin:ord" => ((with_reducible show wpAny _ _ (call (Value.builtin "ord") [Value.str (S _) _]) _ _ _); refine ord_S ?_)
  k_with "binaryOp Add str str" => ((with_reducible show wpAny _ _ (binaryOp Operator.Add (Value.str (S _) _) (Value.str (S _) _)) _ _ _); refine add_S (by tb_start) ?_; intro _ _)
  k_with "inplaceOp Add str str" => ((with_reducible show wpAny _ _ (inplaceOp Operator.Add (Value.str (S _) _) (Value.str (S _) _)) _ _ _); refine iadd_S (by tb_start) ?_; intro _ _)
  k_with "truthy str" => ((with_reducible show wpAny _ _ (truthy (Value.str (S _) _)) _ _ _); refine truthy_S (by tb_start) ?_)
  k_with "compareOp Eq str str" => ((with_reducible show wpAny _ _ (compareOp CmpOp.Eq (Value.str (S _) _) (Value.str (S _) _)) _ _ _); refine eq_S ?_)
  k_with "compareOp NotEq str str" => ((with_reducible show wpAny _ _ (compareOp CmpOp.NotEq (Value.str (S _) _) (Value.str (S _) _)) _ _ _); refine ne_S ?_)
  k_with "subscriptTail Name Slice str ref" => (k_here; (with_reducible rename Fr _ _ _ _ => F'); (with_reducible rename News _ _ _ _ => N'); k_dflt (refine drop_S (s := ⟨_, _, _, _, _⟩) F' N' (by tb_start) ?_); intro _ _ _ _ _; (try k_sweep))
  k_with "subscriptTail Name Slice str ref" => (k_here; (with_reducible rename Fr _ _ _ _ => F'); (with_reducible rename News _ _ _ _ => N'); k_dflt (refine take_S (s := ⟨_, _, _, _, _⟩) F' N' (by tb_start) ?_); intro _ _ _ _ _; (try k_sweep))
  k_with "subscriptTail Name Slice str ref" => (k_here; (with_reducible rename Fr _ _ _ _ => F'); (with_reducible rename News _ _ _ _ => N'); k_dflt (refine mid_S (s := ⟨_, _, _, _, _⟩) F' N' (by tb_start) ?_); intro _ _ _ _ _; (try k_sweep))
  k_with "subscriptTail Name Slice str ref" => (k_here; (with_reducible rename Fr _ _ _ _ => F'); (with_reducible rename News _ _ _ _ => N'); k_dflt (refine part_S (s := ⟨_, _, _, _, _⟩) F' N' (by tb_start) ?_); intro _ _ _ _ _; (try k_sweep))
  k_with "subscriptTail Name Slice str ref" => (k_here; (with_reducible rename Fr _ _ _ _ => F'); (with_reducible rename News _ _ _ _ => N'); k_dflt (refine init_S (s := ⟨_, _, _, _, _⟩) F' N' (by tb_start) ?_); intro _ _ _ _ _; (try k_sweep))
  k_with "subscriptTail Name UnaryOp str int" => (k_here; (with_reducible show wpAny _ _ (subscriptTail _ _ (Value.str (S _) _) (Value.int _ _)) _ _ _); k_dflt (first | (refine last_S (by first | assumption | (intro hz; simp only [hz, List.length_nil] at *; lia)) (by tb_start) ?_) | (refine item_S (by first | assumption | lia | k_extra "my item") (by tb_start) ?_)))
  k_with "subscriptTail Name Name str int" => (k_here; (with_reducible show wpAny _ _ (subscriptTail _ _ (Value.str (S _) _) (Value.int _ _)) _ _ _); first | (with_reducible refine item_S (by k_dflt (first | assumption | lia | k_extra "my item")) (by k_dflt tb_start) ?_) | k_dflt (refine item_Si (by lia) (by first | lia | k_extra "my item") (by tb_start) ?_))
  k_with "subscriptTail Name Constant str int" => (k_here; (with_reducible show wpAny _ _ (subscriptTail _ _ (Value.str (S _) _) (Value.int _ _)) _ _ _); first | (with_reducible refine item_S (by k_dflt (first | assumption | lia | k_extra "my item")) (by k_dflt tb_start) ?_) | k_dflt (refine item_Si (by lia) (by first | lia | k_extra "my item") (by tb_start) ?_))
  k_with "subscriptTail Name BinOp str int" => (k_here; (with_reducible show wpAny _ _ (subscriptTail _ _ (Value.str (S _) _) (Value.int _ _)) _ _ _); first | (with_reducible refine item_S (by k_dflt (first | assumption | lia | k_extra "my item")) (by k_dflt tb_start) ?_) | k_dflt (refine item_Si (by lia) (by first | lia | k_extra "my item") (by tb_start) ?_))
  k_with "subscriptTail Attribute Name str int" => (k_here; (with_reducible show wpAny _ _ (subscriptTail _ _ (Value.str (S _) _) (Value.int _ _)) _ _ _); first | (with_reducible refine item_S (by k_dflt (first | assumption | lia | k_extra "my item")) (by k_dflt tb_start) ?_) | k_dflt (refine item_Si (by lia) (by first | lia | k_extra "my item") (by tb_start) ?_))
  k_with "subscriptTail Attribute Constant str int" => (k_here; (with_reducible show wpAny _ _ (subscriptTail _ _ (Value.str (S _) _) (Value.int _ _)) _ _ _); first | (with_reducible refine item_S (by k_dflt (first | assumption | lia | k_extra "my item")) (by k_dflt tb_start) ?_) | k_dflt (refine item_Si (by lia) (by first | lia | k_extra "my item") (by tb_start) ?_))
  k_with "subscriptTail Attribute Attribute str int" => (k_here; (with_reducible show wpAny _ _ (subscriptTail _ _ (Value.str (S _) _) (Value.int _ _)) _ _ _); first | (with_reducible refine item_S (by k_dflt (first | assumption | lia | k_extra "my item")) (by k_dflt tb_start) ?_) | k_dflt (refine item_Si (by lia) (by first | lia | k_extra "my item") (by tb_start) ?_))
  k_with "truthy ref" => (k_here; k_dflt (refine' truthy_meth ?N ?q ?_; (case N => k_asm); (case q => k_mem); k_whole))
  k_with "exec For Name Name cons nil" => (k_here; (with_reducible rename Fr _ _ _ _ => lF'); k_dflt (refine' For_invVF lF' ?k1 ?k2 ?_; (case k1 => exact rfl); (case k2 => exact rfl); k_whole))
  k_with "exec For Name Subscript cons nil" => (k_here; (with_reducible rename Fr _ _ _ _ => lF'); k_dflt (refine' For_invVF lF' ?k1 ?k2 ?_; (case k1 => exact rfl); (case k2 => exact rfl); k_whole))
  k_with "all" => (refine List.forall_mem_append.mpr ⟨?a, ?b⟩; (case a => k_all); (case b => k_all))
  k_with "rel" => (simp only [List.size_toArray]; rw [PySem.sizeLine_eq]; lia)
  k_with "call builtin:list.append" => (k_here; (with_reducible show wpAny _ _ (call (Value.builtin _) [Value.ref _, _]) _ _ _); k_dflt (refine' append_K ?k1 ?k2 ?k3 ?_ ?z; (case k1 => k_asm); (case k2 => k_asm); (case k3 => k_upd); (case z => tb_rel); k_whole); intro h' F' N'; (try simp only [List.push_toArray] at N'); (try k_sweep))
  k_with "enter" => (refine' code_def ?k1 ?k2 ?k3 ?k4 ?k5 ?kA ?kF ?kK ?k6 ?k7 ?k8 ?k9 ?kB ?_ ?c2 ?c3 ?c4 ?c5; (case kA => exact rfl); (case kF => exact rfl); (case kK => assumption); (case k1 => k_asm); (case k2 => k_asm); (case k3 => k_asm); (case k4 => k_asm); (case k5 => k_asm); (case k6 => k_is); (case k7 => k_is); (case k8 => ktr_room); (case k9 => first | exact BindsTo.of_eq rfl | exact binds_K (by k_in) rfl (by k_is) rfl rfl rfl); (case c5 => decide); (case kB => exact locs rfl); (case c2 => exact rfl); (case c3 => exact rfl); (case c4 => exact rfl); k_whole; intro g' L' h' FG' F' N' B' X' T'; (try dsimp only); (try k_lift B'); (try k_fold))
  k_with "JoinP" => (dsimp only [JoinP])
  k_with "subscriptTail" => (k_here; (with_reducible show wpAny _ _ (subscriptTail _ _ (Value.str (S _) _) (Value.int _ _)) _ _ _); first | (with_reducible refine item_S (by k_dflt (first | assumption | lia | k_extra "my item")) (by k_dflt tb_start) ?_) | k_dflt (refine item_Si (by lia) (by first | lia | k_extra "my item") (by tb_start) ?_))
  k_with "compareOp Eq str str" => ((with_reducible show wpAny _ _ (compareOp CmpOp.Eq (Value.str (S _) _) (Value.str (Str.ofString _) _)) _ _ _); k_dflt (first | refine eq_lit [13] (by decide +kernel) ?_ | refine eq_lit [10] (by decide +kernel) ?_))
  k_with "compareOp NotEq str str" => ((with_reducible show wpAny _ _ (compareOp CmpOp.NotEq (Value.str (S _) _) (Value.str (Str.ofString _) _)) _ _ _); k_dflt (first | refine ne_lit [13] (by decide +kernel) ?_ | refine ne_lit [10] (by decide +kernel) ?_))
  k_with "inplaceOp Add str str" => ((with_reducible show wpAny _ _ (inplaceOp Operator.Add (Value.str (S _) _) (Value.str (Str.ofString _) _)) _ _ _); k_dflt (refine iadd_lit [10] (by decide +kernel) (by tb_start) ?_); intro _ _)
  k_with "room" => (k_dflt ((first | apply room4 | apply room3 | apply room2 | apply room1 | apply room0 | apply roomz); assumption; exact rfl))
  k_with "getAttr ref" => ((with_reducible show wpAny _ _ (getAttr (Value.ref _) (Str.ofString "errors") _) _ _ _); k_dflt (refine g_errors (by assumption) (by k_asm) (by k_asm) ?N ?_; (case N => first | k_asm | exact News.sub (by k_asm) (fun q hq => LedR.mem_rest (by assumption) hq) | exact News.sub (News.tl (by k_asm)) (fun q hq => LedR.mem_rest (by assumption) hq) | exact News.sub (News.tl (News.tl (by k_asm))) (fun q hq => LedR.mem_rest (by assumption) hq) | exact News.tl (by k_asm) | exact News.tl (News.tl (by k_asm)) | exact News.tl (News.tl (News.tl (by k_asm))))); intro _ hE1)
  k_with "getMethod ref" => ((with_reducible show wpAny _ _ (getMethod (Value.ref _) (Str.ofString "position") _) _ _ _); k_dflt (refine m_pos (by assumption) (by k_asm) (by k_asm) ?N ?_; (case N => first | k_asm | exact News.sub (by k_asm) (fun q hq => LedR.mem_rest (by assumption) hq) | exact News.sub (News.tl (by k_asm)) (fun q hq => LedR.mem_rest (by assumption) hq) | exact News.sub (News.tl (News.tl (by k_asm))) (fun q hq => LedR.mem_rest (by assumption) hq) | exact News.tl (by k_asm) | exact News.tl (News.tl (by k_asm)) | exact News.tl (News.tl (News.tl (by k_asm))))))
  k_with "getMethod ref" => ((with_reducible show wpAny _ _ (getMethod (Value.ref _) (Str.ofString "char") _) _ _ _); k_dflt (refine m_char (by assumption) (by k_asm) (by k_asm) ?N ?_; (case N => first | k_asm | exact News.sub (by k_asm) (fun q hq => LedR.mem_rest (by assumption) hq) | exact News.sub (News.tl (by k_asm)) (fun q hq => LedR.mem_rest (by assumption) hq) | exact News.sub (News.tl (News.tl (by k_asm))) (fun q hq => LedR.mem_rest (by assumption) hq) | exact News.tl (by k_asm) | exact News.tl (News.tl (by k_asm)) | exact News.tl (News.tl (News.tl (by k_asm))))))
  k_with "getMethod ref" => ((with_reducible show wpAny _ _ (getMethod (Value.ref _) (Str.ofString "readChunk") _) _ _ _); k_dflt (refine m_chunk (by assumption) (by k_asm) (by k_asm) ?N ?_; (case N => first | k_asm | exact News.sub (by k_asm) (fun q hq => LedR.mem_rest (by assumption) hq) | exact News.sub (News.tl (by k_asm)) (fun q hq => LedR.mem_rest (by assumption) hq) | exact News.sub (News.tl (News.tl (by k_asm))) (fun q hq => LedR.mem_rest (by assumption) hq) | exact News.tl (by k_asm) | exact News.tl (News.tl (by k_asm)) | exact News.tl (News.tl (News.tl (by k_asm))))))
  k_with "getMethod ref" => ((with_reducible show wpAny _ _ (getMethod (Value.ref _) (Str.ofString "unget") _) _ _ _); k_dflt (refine m_unget (by assumption) (by k_asm) (by k_asm) ?N ?_; (case N => first | k_asm | exact News.sub (by k_asm) (fun q hq => LedR.mem_rest (by assumption) hq) | exact News.sub (News.tl (by k_asm)) (fun q hq => LedR.mem_rest (by assumption) hq) | exact News.sub (News.tl (News.tl (by k_asm))) (fun q hq => LedR.mem_rest (by assumption) hq) | exact News.tl (by k_asm) | exact News.tl (News.tl (by k_asm)) | exact News.tl (News.tl (News.tl (by k_asm))))))
  k_with "getMethod ref" => ((with_reducible show wpAny _ _ (getMethod (Value.ref _) (Str.ofString "charsUntil") _) _ _ _); k_dflt (refine m_until (by assumption) (by k_asm) (by k_asm) ?N ?_; (case N => first | k_asm | exact News.sub (by k_asm) (fun q hq => LedR.mem_rest (by assumption) hq) | exact News.sub (News.tl (by k_asm)) (fun q hq => LedR.mem_rest (by assumption) hq) | exact News.sub (News.tl (News.tl (by k_asm))) (fun q hq => LedR.mem_rest (by assumption) hq) | exact News.tl (by k_asm) | exact News.tl (News.tl (by k_asm)) | exact News.tl (News.tl (News.tl (by k_asm))))))
  k_with "call ref" => ((with_reducible show wpAny _ _ (call (Value.ref 91) _) _ _ _); k_dflt ((refine' Spec.usePos (position_spec stA.off hF a5 a3) eA ?B ?F ?X ?N ?T ?hk ?hd ?hu ?_); (case B => k_asm); (case F => k_asm); (case X => k_asm); (case T => k_asm); (case hk => first | exact rfl | assumption); (case N => first | k_asm | exact News.tl (by k_asm) | exact News.tl (News.tl (by k_asm)) | exact News.tl (News.tl (News.tl (by k_asm)))); (case hd => ktr_room); (case hu => ktr_units); intro DA ta1 ta2 h' tk' hltA hle' F' N'; (try k_lt hltA); (try dsimp only); (try k_fold)))
  k_with "compareOp NotEq ref ref" => (k_here; (with_reducible show wpAny _ _ (compareOp CmpOp.NotEq (Value.ref _) (Value.ref _)) _ _ _); k_dflt (refine' ne_tup2_no ?epN ?epa ?epb ?epu ?ep1 ?ep2 ?_; (case epN => k_asm); (case epa => exact .tail _ (.head _)); (case epb => exact .head _); (case epu => ke_room); (case ep1 => rfl); (case ep2 => rfl); k_whole))
  k_steps
  all_goals (
    rename Fr _ _ _ _ => F9
    rename News _ _ _ _ => N9
    exact hret _ _ _ hF F9 (News.tl (News.tl N9)))
set_option maxRecDepth 100000 in
set_option maxHeartbeats 4000000 in
theorem fin_spec (hK : LedIs w (post5 R k) r0 adB xB ⟨[], 0, 0, 0, 0, none, 0⟩ nK) (hF : LedIs w R nK adA xA stA news) (hm : (l, W.listOf es.toArray nn) ∈ r0) (hg : (Dg, W.listOf gs.toArray ng) ∈ r0) (hIt : IntsAre es (nums5 ns)) (hG : StrsAre gs (sg (norm R))) (hR : Raw5 R) (hk : k ≤ (norm R).length) (hi : InvG True R stA k) (hq : q = ((norm R).take k).foldl adv (1, 0))
    (bd : List Stmt) (sc : Scope) (hb : lawB.drop 10 = bd) (hs : lawSc = sc)
    (dp un : Nat) (gd : Option (List Code)) (a : Addr) (ccd : Value) (cl : List (Str × Addr)) (outer : List Env) (A₀ : Around) (base h₀ : Heap) (L : Addr) (s : Shared) (Q : Flow → Shared → Prop) (E : Value → Shared → Prop)
    (B : Below A₀ base outer h₀) (F : Fr h₀ L s.heap (fun y => if y = Str.ofString "columns" then some (.int (q.2 : Int) tq2) else if y = Str.ofString "lines" then some (.int (q.1 : Int) tq1) else if y = Str.ofString "sign" then us else if y = Str.ofString "rest" then some (.ref xB) else if y = Str.ofString "whole" then some (.ref xA) else if y = Str.ofString "cut" then some (.int (k : Int) tk) else if y = Str.ofString "signs" then some (.ref Dg) else if y = Str.ofString "spelled" then some (.ref Ds) else if y = Str.ofString "numbers" then some (.ref l) else List.lookup y [(Str.ofString "script", vc)].reverse))
    (X : (hd05.heap_39 w.params).In h₀) (N : News h₀ L s.heap news) (T : Top hd05.view_39 loose mean mg mb h₀) (hd : dp + 100 < recursionLimit) (hu : un + 800 < cLine) (hE : PassesOwn (model PySem.Challenge.pw_te0074_05 w) (ktrTop dp un gd (Str.ofString "law") sc L a ccd cl outer) (envOf (Str.ofString "law") sc L a ccd) E)
    (hret : ∀ h' tk' m' nw', Fr h₀ L h' m' → News h₀ L h' nw' → Q (.ret (.bool true)) { s with heap := h', toks := tk' }) :
    wpAny (model PySem.Challenge.pw_te0074_05 w) (ktrTop dp un gd (Str.ofString "law") sc L a ccd cl outer) (execs bd (envOf (Str.ofString "law") sc L a ccd)) Q E s := by
  conv at hb => lhs; whnf
  conv at hs => lhs; whnf
  subst hb hs
  have hnl5 := nums5_len ns
  have h5 : Two5 R (post5 R k) k stA ⟨[], 0, 0, 0, 0, none, 0⟩ 0 := ⟨hR, hR.post k, norm_post R k, hi, invG_start⟩
  unfold LedIs at hK hF
  k_with_none
  k_with "tb" => (first | assumption | (apply le3; assumption; exact rfl) | lia | (simp only [List.length_append, List.length_cons, List.length_nil, List.length_take, List.length_drop, List.length_dropLast, crs_len, partOf_len] at *; lia) | ((with_reducible refine Nat.le_trans (crlf_len _) ?_); tb_start) | ((with_reducible refine Nat.le_trans (split_len _) ?_); tb_start) | ((with_reducible refine Nat.le_trans (norm_len _) ?_); tb_start))
  k_with "call builtin:str.count" => (refine count4 (by decide +kernel) (by first | assumption | lia) ?_)
  k_with "call builtin:str.rfind" => (refine rfind4 (by decide +kernel) (by first | assumption | lia) ?_)
  k_with "call builtin:str.replace" => ((try dsimp only at *); k_dflt (refine repl_crlf_S (by decide +kernel) (by decide +kernel) (by k_ne) (by k_ne) (by k_ne) (by tb_start) ?_); intro _ _ _)
  k_with "call builtin:str.replace" => ((try dsimp only at *); k_dflt (refine repl_cr_S (by decide +kernel) (by decide +kernel) (by k_ne) (by k_ne) (by k_ne) (by tb_start) ?_); intro _ _ _)
  k_with "call builtin:len" => ((with_reducible show wpAny _ _ (call (Value.builtin "len") [Value.str (S _) _]) _ _ _); refine len_S (by tb_start) ?_)
  k_with "call builtin:ord" => ((with_reducible show wpAny _ _ (call (Value.builtin "ord") [Value.str (S _) _]) _ _ _); refine ord_S ?_)
  k_with "binaryOp Add str str" => ((with_reducible show wpAny _ _ (binaryOp Operator.Add (Value.str (S _) _) (Value.str (S _) _)) _ _ _); refine add_S (by tb_start) ?_; intro _ _)
  k_with "inplaceOp Add str str" => ((with_reducible show wpAny _ _ (inplaceOp Operator.Add (Value.str (S _) _) (Value.str (S _) _)) _ _ _); refine iadd_S (by tb_start) ?_; intro _ _)
  k_with "truthy str" => ((with_reducible show wpAny _ _ (truthy (Value.str (S _) _)) _ _ _); refine truthy_S (by tb_start) ?_)
  k_with "compareOp Eq str str" => ((with_reducible show wpAny _ _ (compareOp CmpOp.Eq (Value.str (S _) _) (Value.str (S _) _)) _ _ _); refine eq_S ?_)
  k_with "compareOp NotEq str str" => ((with_reducible show wpAny _ _ (compareOp CmpOp.NotEq (Value.str (S _) _) (Value.str (S _) _)) _ _ _); refine ne_S ?_)
  k_with "subscriptTail Name Slice str ref" => (k_here; (with_reducible rename Fr _ _ _ _ => F'); (with_reducible rename News _ _ _ _ => N'); k_dflt (refine drop_S (s := ⟨_, _, _, _, _⟩) F' N' (by tb_start) ?_); intro _ _ _ _ _; (try k_sweep))
  k_with "subscriptTail Name Slice str ref" => (k_here; (with_reducible rename Fr _ _ _ _ => F'); (with_reducible rename News _ _ _ _ => N'); k_dflt (refine take_S (s := ⟨_, _, _, _, _⟩) F' N' (by tb_start) ?_); intro _ _ _ _ _; (try k_sweep))
  k_with "subscriptTail Name Slice str ref" => (k_here; (with_reducible rename Fr _ _ _ _ => F'); (with_reducible rename News _ _ _ _ => N'); k_dflt (refine mid_S (s := ⟨_, _, _, _, _⟩) F' N' (by tb_start) ?_); intro _ _ _ _ _; (try k_sweep))
  k_with "subscriptTail Name Slice str ref" => (k_here; (with_reducible rename Fr _ _ _ _ => F'); (with_reducible rename News _ _ _ _ => N'); k_dflt (refine part_S (s := ⟨_, _, _, _, _⟩) F' N' (by tb_start) ?_); intro _ _ _ _ _; (try k_sweep))
  k_with "subscriptTail Name Slice str ref" => (k_here; (with_reducible rename Fr _ _ _ _ => F'); (with_reducible rename News _ _ _ _ => N'); k_dflt (refine init_S (s := ⟨_, _, _, _, _⟩) F' N' (by tb_start) ?_); intro _ _ _ _ _; (try k_sweep))
  k_with "subscriptTail Name UnaryOp str int" => (k_here; (with_reducible show wpAny _ _ (subscriptTail _ _ (Value.str (S _) _) (Value.int _ _)) _ _ _); k_dflt (first | (refine last_S (by first | assumption | (intro hz; simp only [hz, List.length_nil] at *; lia)) (by tb_start) ?_) | (refine item_S (by first | assumption | lia | k_extra "my item") (by tb_start) ?_)))
  k_with "subscriptTail Name Name str int" => (k_here; (with_reducible show wpAny _ _ (subscriptTail _ _ (Value.str (S _) _) (Value.int _ _)) _ _ _); first | (with_reducible refine item_S (by k_dflt (first | assumption | lia | k_extra "my item")) (by k_dflt tb_start) ?_) | k_dflt (refine item_Si (by lia) (by first | lia | k_extra "my item") (by tb_start) ?_))
  k_with "subscriptTail Name Constant str int" => (k_here; (with_reducible show wpAny _ _ (subscriptTail _ _ (Value.str (S _) _) (Value.int _ _)) _ _ _); first | (with_reducible refine item_S (by k_dflt (first | assumption | lia | k_extra "my item")) (by k_dflt tb_start) ?_) | k_dflt (refine item_Si (by lia) (by first | lia | k_extra "my item") (by tb_start) ?_))
  k_with "subscriptTail Name BinOp str int" => (k_here; (with_reducible show wpAny _ _ (subscriptTail _ _ (Value.str (S _) _) (Value.int _ _)) _ _ _); first | (with_reducible refine item_S (by k_dflt (first | assumption | lia | k_extra "my item")) (by k_dflt tb_start) ?_) | k_dflt (refine item_Si (by lia) (by first | lia | k_extra "my item") (by tb_start) ?_))
  k_with "subscriptTail Attribute Name str int" => (k_here; (with_reducible show wpAny _ _ (subscriptTail _ _ (Value.str (S _) _) (Value.int _ _)) _ _ _); first | (with_reducible refine item_S (by k_dflt (first | assumption | lia | k_extra "my item")) (by k_dflt tb_start) ?_) | k_dflt (refine item_Si (by lia) (by first | lia | k_extra "my item") (by tb_start) ?_))
  k_with "subscriptTail Attribute Constant str int" => (k_here; (with_reducible show wpAny _ _ (subscriptTail _ _ (Value.str (S _) _) (Value.int _ _)) _ _ _); first | (with_reducible refine item_S (by k_dflt (first | assumption | lia | k_extra "my item")) (by k_dflt tb_start) ?_) | k_dflt (refine item_Si (by lia) (by first | lia | k_extra "my item") (by tb_start) ?_))
  k_with "subscriptTail Attribute Attribute str int" => (k_here; (with_reducible show wpAny _ _ (subscriptTail _ _ (Value.str (S _) _) (Value.int _ _)) _ _ _); first | (with_reducible refine item_S (by k_dflt (first | assumption | lia | k_extra "my item")) (by k_dflt tb_start) ?_) | k_dflt (refine item_Si (by lia) (by first | lia | k_extra "my item") (by tb_start) ?_))
  k_with "truthy ref" => (k_here; k_dflt (refine' truthy_meth ?N ?q ?_; (case N => k_asm); (case q => k_mem); k_whole))
  k_with "exec For Name Name cons nil" => (k_here; (with_reducible rename Fr _ _ _ _ => lF'); k_dflt (refine' For_invVF lF' ?k1 ?k2 ?_; (case k1 => exact rfl); (case k2 => exact rfl); k_whole))
  k_with "exec For Name Subscript cons nil" => (k_here; (with_reducible rename Fr _ _ _ _ => lF'); k_dflt (refine' For_invVF lF' ?k1 ?k2 ?_; (case k1 => exact rfl); (case k2 => exact rfl); k_whole))
  k_with "all" => (refine List.forall_mem_append.mpr ⟨?a, ?b⟩; (case a => k_all); (case b => k_all))
  k_with "rel" => (simp only [List.size_toArray]; rw [PySem.sizeLine_eq]; lia)
  k_with "call builtin:list.append" => (k_here; (with_reducible show wpAny _ _ (call (Value.builtin _) [Value.ref _, _]) _ _ _); k_dflt (refine' append_K ?k1 ?k2 ?k3 ?_ ?z; (case k1 => k_asm); (case k2 => k_asm); (case k3 => k_upd); (case z => tb_rel); k_whole); intro h' F' N'; (try simp only [List.push_toArray] at N'); (try k_sweep))
  k_with "enter" => (refine' code_def ?k1 ?k2 ?k3 ?k4 ?k5 ?kA ?kF ?kK ?k6 ?k7 ?k8 ?k9 ?kB ?_ ?c2 ?c3 ?c4 ?c5; (case kA => exact rfl); (case kF => exact rfl); (case kK => assumption); (case k1 => k_asm); (case k2 => k_asm); (case k3 => k_asm); (case k4 => k_asm); (case k5 => k_asm); (case k6 => k_is); (case k7 => k_is); (case k8 => ktr_room); (case k9 => first | exact BindsTo.of_eq rfl | exact binds_K (by k_in) rfl (by k_is) rfl rfl rfl); (case c5 => decide); (case kB => exact locs rfl); (case c2 => exact rfl); (case c3 => exact rfl); (case c4 => exact rfl); k_whole; intro g' L' h' FG' F' N' B' X' T'; (try dsimp only); (try k_lift B'); (try k_fold))
  k_with "JoinP" => (dsimp only [JoinP])
  k_with "subscriptTail" => (k_here; (with_reducible show wpAny _ _ (subscriptTail _ _ (Value.str (S _) _) (Value.int _ _)) _ _ _); first | (with_reducible refine item_S (by k_dflt (first | assumption | lia | k_extra "my item")) (by k_dflt tb_start) ?_) | k_dflt (refine item_Si (by lia) (by first | lia | k_extra "my item") (by tb_start) ?_))
  k_with "compareOp Eq str str" => ((with_reducible show wpAny _ _ (compareOp CmpOp.Eq (Value.str (S _) _) (Value.str (Str.ofString _) _)) _ _ _); k_dflt (first | refine eq_lit [13] (by decide +kernel) ?_ | refine eq_lit [10] (by decide +kernel) ?_))
  k_with "compareOp NotEq str str" => ((with_reducible show wpAny _ _ (compareOp CmpOp.NotEq (Value.str (S _) _) (Value.str (Str.ofString _) _)) _ _ _); k_dflt (first | refine ne_lit [13] (by decide +kernel) ?_ | refine ne_lit [10] (by decide +kernel) ?_))
  k_with "inplaceOp Add str str" => ((with_reducible show wpAny _ _ (inplaceOp Operator.Add (Value.str (S _) _) (Value.str (Str.ofString _) _)) _ _ _); k_dflt (refine iadd_lit [10] (by decide +kernel) (by tb_start) ?_); intro _ _)
  k_with "room" => (k_dflt ((first | apply room4 | apply room3 | apply room2 | apply room1 | apply room0 | apply roomz); assumption; exact rfl))
  k_with "exec For Name BinOp cons nil" => (k_here; (with_reducible rename Fr _ _ _ _ => lF'); k_dflt (refine' For_invVF lF' ?k1 ?k2 ?_; (case k1 => exact rfl); (case k2 => exact rfl); k_whole))
  k_with "binaryOp Add ref ref" => ((with_reducible rename Fr _ _ _ _ => F9); (with_reducible rename News _ _ _ _ => N9); k_dflt (refine' kmk_add_ints F9 N9 (News.isList N9 (.tail _ (LedR.mem_rest hF (LedR.mem_rest hK hm)))) (News.isList N9 (.head _)) hIt (.cons _ _ (.cons _ _ .nil)) ?_ ?z; (case z => (rw [PySem.sizeLine_eq]; show (nums5 ns).length + 2 ≤ _; lia))); (clear F9 N9); intro Dn wn hm' Fm Nm l1m hI2)
  repeat' ((fail_if_success (with_reducible show wpAny _ _ (pyIter _) _ _ _)); first | (k_unfold; (try dsimp only)) | (k_end; wrow_close) | walk1 | (dsimp only; walk1) | (leave1; try dsimp only))
  (rename Fr _ _ _ _ => F9)
  (obtain ⟨nA, n8, hK1, hF1, hsub⟩ := led_swap hK hF)
  have N8 := News.sub Nm (sub_cons (p := (Dn, W.listOf wn.toArray 0)) (.head _) (fun z hz => .tail _ (.tail _ (hsub z hz))))
  (obtain ⟨nK2, n2, hK2, hF2, N2⟩ := led_push2 hK1 hF1 (fun z hz => l1m z (.tail _ (hsub z hz))) N8)
  clear Nm N8 hK1 hF1 hK hF
  k_dflt (refine' for_spec hK2 hF2 h5 (.head _) hI2 _ _ rfl rfl Fresh5.none hq ?fm rfl ?B F9 ?X N2 ?T ?hd ?hu ?hE ?done)
  (case B => k_asm)
  (case X => k_asm)
  (case T => k_asm)
  (case hd => ktr_room)
  (case hu => ktr_units)
  (case hE => passes_own)
  (case fm => exact FrL5.of (str_empty _) .none rfl (fun z a0 a1 a2 a3 a4 a5 => (by repeat (first | with_reducible rfl | refine (if_neg (by assumption)).trans ?_ | rfl))))
  (case done =>
    intro h9 tk9 m9 stA9 stB9 p9 fr9 nK9 nw9 hm9 h59 hK9 hF9 Fa Na
    clear F9 N2
    obtain ⟨u0, u1, u2, u3, tr, v, hv, rfl⟩ := hm9
    (try dsimp only)
    k_dflt (refine' tail_spec hK9 hF9 h59 (.tail _ hg) hG hk (count5 hR k) _ _ rfl rfl _ _ _ _ _ _ _ _ _ _ _ _ _ _ ?B Fa ?X Na ?T ?hd ?hu ?hE ?ret)
    (case B => k_asm)
    (case X => k_asm)
    (case T => k_asm)
    (case hd => ktr_room)
    (case hu => ktr_units)
    (case hE => passes_own)
    (case ret =>
      intro h2 tk2 m2 nw2 F2 N3
      exact hret _ _ _ _ F2 N3))
end
section
variable {w : World} {mean : ExcName → Option Value} {mg mb : Str → Option Value} {news : List (Addr × Obj)}
set_option maxRecDepth 100000 in
set_option maxHeartbeats 4000000 in
theorem head_spec {l : Addr} {es : List Value} {nn : Nat} {ns : List Int} (hn : news = [(l, W.listOf es.toArray nn)]) (hIt : IntsAre es (nums5 ns))
    (bd : List Stmt) (sc : Scope) (hb : lawB.drop 1 = bd) (hs : lawSc = sc) {vc : Value}
    (dp un : Nat) (gd : Option (List Code)) (a : Addr) (ccd : Value) (cl : List (Str × Addr)) (outer : List Env) (A₀ : Around) (base h₀ : Heap) (L : Addr) (s : Shared) (Q : Flow → Shared → Prop) (E : Value → Shared → Prop)
    (B : Below A₀ base outer h₀) (F : Fr h₀ L s.heap (fun y => if y = Str.ofString "numbers" then some (.ref l) else List.lookup y [(Str.ofString "script", vc)].reverse))
    (X : (hd05.heap_39 w.params).In h₀) (N : News h₀ L s.heap news) (T : Top hd05.view_39 loose mean mg mb h₀) (hd : dp + 100 < recursionLimit) (hu : un + 800 < cLine) (hE : PassesOwn (model PySem.Challenge.pw_te0074_05 w) (ktrTop dp un gd (Str.ofString "law") sc L a ccd cl outer) (envOf (Str.ofString "law") sc L a ccd) E)
    (hret : ∀ h' tk' m' nw', Fr h₀ L h' m' → News h₀ L h' nw' → Q (.ret (.bool true)) { s with heap := h', toks := tk' }) :
    wpAny (model PySem.Challenge.pw_te0074_05 w) (ktrTop dp un gd (Str.ofString "law") sc L a ccd cl outer) (execs bd (envOf (Str.ofString "law") sc L a ccd)) Q E s := by
  conv at hb => lhs; whnf
  subst hb hn
  have hraw := raw5_raw ns
  have hRl := hraw.len
  refine wpAny_execs_cons (s1 rfl hIt rfl _ _ _ rfl hs dp un gd a ccd cl outer A₀ base h₀ L _ _ E B F X N T hd hu hE ?_)
  intro h1 tk1 Ds ss n1 hS F1 N1
  refine wpAny_execs_cons (s2 rfl hS hRl _ _ _ rfl hs dp un gd a ccd cl outer A₀ base h₀ L _ _ E B F1 X N1 T hd hu hE ?_)
  intro h2 tk2 Dg gs ng hG F2 N2
  refine wpAny_execs_cons (s3 rfl hIt hG hRl _ _ _ rfl hs dp un gd a ccd cl outer A₀ base h₀ L _ _ E B F2 X N2 T hd hu hE ?_)
  intro h3 tk3 k tk hk F3 N3
  refine wpAny_execs_cons (s4 rfl hS hRl _ _ _ rfl hs dp un gd a ccd cl outer A₀ base h₀ L _ _ E B F3 X N3 T hd hu hE ?_)
  intro h4 tk4 adA xA nA hA F4 N4
  refine wpAny_execs_cons (s5 hA (.tail _ (.head _)) hS hraw hk _ _ _ rfl hs dp un gd a ccd cl outer A₀ base h₀ L _ _ E B F4 X N4 T hd hu hE ?_)
  intro h5 tk5 adB xB nB hB F5 N5
  refine wpAny_execs_cons (s6 hA hB (.tail _ (.tail _ (.head _))) hIt hraw _ _ _ rfl hs dp un gd a ccd cl outer A₀ base h₀ L _ _ E B F5 X N5 T hd hu hE ?_)
  intro h6 tk6 stA nKB nw6 hi hKB hFA F6 N6
  refine wpAny_execs_cons (s7 hKB hFA (.head _) hG hraw hk hi _ _ _ rfl hs dp un gd a ccd cl outer A₀ base h₀ L _ _ E B F6 X N6 T hd hu hE ?_)
  intro h7 tk7 stA7 nw7 us hi7 hF7 F7 N7
  refine wpAny_execs_cons (s8 hKB hF7 (.head _) hG hraw hk rfl _ _ _ rfl hs dp un gd a ccd cl outer A₀ base h₀ L _ _ E B F7 X N7 T hd hu hE ?_)
  intro h8 tk8 tq1 tq2 F8 N8
  refine wpAny_execs_cons (s9 hKB hF7 hraw hi7 rfl _ _ _ rfl hs dp un gd a ccd cl outer A₀ base h₀ L _ _ E B F8 X N8 T hd hu hE ?_)
  intro h9 tk9 nw9 hF9 F9 N9
  exact fin_spec hKB hF9 (.tail _ (.tail _ (.head _))) (.head _) hIt hG hraw hk hi7 rfl _ _ rfl hs dp un gd a ccd cl outer A₀ base h₀ L _ _ E B F9 X N9 T hd hu hE (fun h' tk' m' nw' Fz Nz => hret h' tk' m' nw' Fz Nz)
end
set_option maxRecDepth 100000 in
set_option maxHeartbeats 8000000 in
theorem walk : PySem.Challenge.rw_te0074_05.Holds := by
  refine hd05 ?_
  k_go0
  all_goals (try k_fold)
  rename World => w
  rename List Int => ns
  k_with_none
  k_with "tb" => (first | assumption | (apply le3; assumption; exact rfl) | lia | (simp only [List.length_append, List.length_cons, List.length_nil, List.length_take, List.length_drop, List.length_dropLast, crs_len, partOf_len] at *; lia) | ((with_reducible refine Nat.le_trans (crlf_len _) ?_); tb_start) | ((with_reducible refine Nat.le_trans (split_len _) ?_); tb_start) | ((with_reducible refine Nat.le_trans (norm_len _) ?_); tb_start))
  k_with "call builtin:str.count" => (refine count4 (by decide +kernel) (by first | assumption | lia) ?_)
  k_with "call builtin:str.rfind" => (refine rfind4 (by decide +kernel) (by first | assumption | lia) ?_)
  k_with "call builtin:str.replace" => ((try dsimp only at *); k_dflt (refine repl_crlf_S (by decide +kernel) (by decide +kernel) (by k_ne) (by k_ne) (by k_ne) (by tb_start) ?_); intro _ _ _)
  k_with "call builtin:str.replace" => ((try dsimp only at *); k_dflt (refine repl_cr_S (by decide +kernel) (by decide +kernel) (by k_ne) (by k_ne) (by k_ne) (by tb_start) ?_); intro _ _ _)
  k_with "call builtin:len" => ((with_reducible show wpAny _ _ (call (Value.builtin "len") [Value.str (S _) _]) _ _ _); refine len_S (by tb_start) ?_)
  k_with "call builtin:ord" => ((with_reducible show wpAny _ _ (call (Value.builtin "ord") [Value.str (S _) _]) _ _ _); refine ord_S ?_)
  k_with "binaryOp Add str str" => ((with_reducible show wpAny _ _ (binaryOp Operator.Add (Value.str (S _) _) (Value.str (S _) _)) _ _ _); refine add_S (by tb_start) ?_; intro _ _)
  k_with "inplaceOp Add str str" => ((with_reducible show wpAny _ _ (inplaceOp Operator.Add (Value.str (S _) _) (Value.str (S _) _)) _ _ _); refine iadd_S (by tb_start) ?_; intro _ _)
  k_with "truthy str" => ((with_reducible show wpAny _ _ (truthy (Value.str (S _) _)) _ _ _); refine truthy_S (by tb_start) ?_)
  k_with "compareOp Eq str str" => ((with_reducible show wpAny _ _ (compareOp CmpOp.Eq (Value.str (S _) _) (Value.str (S _) _)) _ _ _); refine eq_S ?_)
  k_with "compareOp NotEq str str" => ((with_reducible show wpAny _ _ (compareOp CmpOp.NotEq (Value.str (S _) _) (Value.str (S _) _)) _ _ _); refine ne_S ?_)
  k_with "subscriptTail Name Slice str ref" => (k_here; (with_reducible rename Fr _ _ _ _ => F'); (with_reducible rename News _ _ _ _ => N'); k_dflt (refine drop_S (s := ⟨_, _, _, _, _⟩) F' N' (by tb_start) ?_); intro _ _ _ _ _; (try k_sweep))
  k_with "subscriptTail Name Slice str ref" => (k_here; (with_reducible rename Fr _ _ _ _ => F'); (with_reducible rename News _ _ _ _ => N'); k_dflt (refine take_S (s := ⟨_, _, _, _, _⟩) F' N' (by tb_start) ?_); intro _ _ _ _ _; (try k_sweep))
  k_with "subscriptTail Name Slice str ref" => (k_here; (with_reducible rename Fr _ _ _ _ => F'); (with_reducible rename News _ _ _ _ => N'); k_dflt (refine mid_S (s := ⟨_, _, _, _, _⟩) F' N' (by tb_start) ?_); intro _ _ _ _ _; (try k_sweep))
  k_with "subscriptTail Name Slice str ref" => (k_here; (with_reducible rename Fr _ _ _ _ => F'); (with_reducible rename News _ _ _ _ => N'); k_dflt (refine part_S (s := ⟨_, _, _, _, _⟩) F' N' (by tb_start) ?_); intro _ _ _ _ _; (try k_sweep))
  k_with "subscriptTail Name Slice str ref" => (k_here; (with_reducible rename Fr _ _ _ _ => F'); (with_reducible rename News _ _ _ _ => N'); k_dflt (refine init_S (s := ⟨_, _, _, _, _⟩) F' N' (by tb_start) ?_); intro _ _ _ _ _; (try k_sweep))
  k_with "subscriptTail Name UnaryOp str int" => (k_here; (with_reducible show wpAny _ _ (subscriptTail _ _ (Value.str (S _) _) (Value.int _ _)) _ _ _); k_dflt (first | (refine last_S (by first | assumption | (intro hz; simp only [hz, List.length_nil] at *; lia)) (by tb_start) ?_) | (refine item_S (by first | assumption | lia | k_extra "my item") (by tb_start) ?_)))
  k_with "subscriptTail Name Name str int" => (k_here; (with_reducible show wpAny _ _ (subscriptTail _ _ (Value.str (S _) _) (Value.int _ _)) _ _ _); first | (with_reducible refine item_S (by k_dflt (first | assumption | lia | k_extra "my item")) (by k_dflt tb_start) ?_) | k_dflt (refine item_Si (by lia) (by first | lia | k_extra "my item") (by tb_start) ?_))
  k_with "subscriptTail Name Constant str int" => (k_here; (with_reducible show wpAny _ _ (subscriptTail _ _ (Value.str (S _) _) (Value.int _ _)) _ _ _); first | (with_reducible refine item_S (by k_dflt (first | assumption | lia | k_extra "my item")) (by k_dflt tb_start) ?_) | k_dflt (refine item_Si (by lia) (by first | lia | k_extra "my item") (by tb_start) ?_))
  k_with "subscriptTail Name BinOp str int" => (k_here; (with_reducible show wpAny _ _ (subscriptTail _ _ (Value.str (S _) _) (Value.int _ _)) _ _ _); first | (with_reducible refine item_S (by k_dflt (first | assumption | lia | k_extra "my item")) (by k_dflt tb_start) ?_) | k_dflt (refine item_Si (by lia) (by first | lia | k_extra "my item") (by tb_start) ?_))
  k_with "subscriptTail Attribute Name str int" => (k_here; (with_reducible show wpAny _ _ (subscriptTail _ _ (Value.str (S _) _) (Value.int _ _)) _ _ _); first | (with_reducible refine item_S (by k_dflt (first | assumption | lia | k_extra "my item")) (by k_dflt tb_start) ?_) | k_dflt (refine item_Si (by lia) (by first | lia | k_extra "my item") (by tb_start) ?_))
  k_with "subscriptTail Attribute Constant str int" => (k_here; (with_reducible show wpAny _ _ (subscriptTail _ _ (Value.str (S _) _) (Value.int _ _)) _ _ _); first | (with_reducible refine item_S (by k_dflt (first | assumption | lia | k_extra "my item")) (by k_dflt tb_start) ?_) | k_dflt (refine item_Si (by lia) (by first | lia | k_extra "my item") (by tb_start) ?_))
  k_with "subscriptTail Attribute Attribute str int" => (k_here; (with_reducible show wpAny _ _ (subscriptTail _ _ (Value.str (S _) _) (Value.int _ _)) _ _ _); first | (with_reducible refine item_S (by k_dflt (first | assumption | lia | k_extra "my item")) (by k_dflt tb_start) ?_) | k_dflt (refine item_Si (by lia) (by first | lia | k_extra "my item") (by tb_start) ?_))
  k_with "truthy ref" => (k_here; k_dflt (refine' truthy_meth ?N ?q ?_; (case N => k_asm); (case q => k_mem); k_whole))
  k_with "exec For Name Name cons nil" => (k_here; (with_reducible rename Fr _ _ _ _ => lF'); k_dflt (refine' For_invVF lF' ?k1 ?k2 ?_; (case k1 => exact rfl); (case k2 => exact rfl); k_whole))
  k_with "exec For Name Subscript cons nil" => (k_here; (with_reducible rename Fr _ _ _ _ => lF'); k_dflt (refine' For_invVF lF' ?k1 ?k2 ?_; (case k1 => exact rfl); (case k2 => exact rfl); k_whole))
  k_with "all" => (refine List.forall_mem_append.mpr ⟨?a, ?b⟩; (case a => k_all); (case b => k_all))
  k_with "rel" => (simp only [List.size_toArray]; rw [PySem.sizeLine_eq]; lia)
  k_with "call builtin:list.append" => (k_here; (with_reducible show wpAny _ _ (call (Value.builtin _) [Value.ref _, _]) _ _ _); k_dflt (refine' append_K ?k1 ?k2 ?k3 ?_ ?z; (case k1 => k_asm); (case k2 => k_asm); (case k3 => k_upd); (case z => tb_rel); k_whole); intro h' F' N'; (try simp only [List.push_toArray] at N'); (try k_sweep))
  k_with "enter" => (refine' code_def ?k1 ?k2 ?k3 ?k4 ?k5 ?kA ?kF ?kK ?k6 ?k7 ?k8 ?k9 ?kB ?_ ?c2 ?c3 ?c4 ?c5; (case kA => exact rfl); (case kF => exact rfl); (case kK => assumption); (case k1 => k_asm); (case k2 => k_asm); (case k3 => k_asm); (case k4 => k_asm); (case k5 => k_asm); (case k6 => k_is); (case k7 => k_is); (case k8 => ktr_room); (case k9 => first | exact BindsTo.of_eq rfl | exact binds_K (by k_in) rfl (by k_is) rfl rfl rfl); (case c5 => decide); (case kB => exact locs rfl); (case c2 => exact rfl); (case c3 => exact rfl); (case c4 => exact rfl); k_whole; intro g' L' h' FG' F' N' B' X' T'; (try dsimp only); (try k_lift B'); (try k_fold))
  k_with "JoinP" => (dsimp only [JoinP])
  k_with "subscriptTail" => (k_here; (with_reducible show wpAny _ _ (subscriptTail _ _ (Value.str (S _) _) (Value.int _ _)) _ _ _); first | (with_reducible refine item_S (by k_dflt (first | assumption | lia | k_extra "my item")) (by k_dflt tb_start) ?_) | k_dflt (refine item_Si (by lia) (by first | lia | k_extra "my item") (by tb_start) ?_))
  k_with "compareOp Eq str str" => ((with_reducible show wpAny _ _ (compareOp CmpOp.Eq (Value.str (S _) _) (Value.str (Str.ofString _) _)) _ _ _); k_dflt (first | refine eq_lit [13] (by decide +kernel) ?_ | refine eq_lit [10] (by decide +kernel) ?_))
  k_with "compareOp NotEq str str" => ((with_reducible show wpAny _ _ (compareOp CmpOp.NotEq (Value.str (S _) _) (Value.str (Str.ofString _) _)) _ _ _); k_dflt (first | refine ne_lit [13] (by decide +kernel) ?_ | refine ne_lit [10] (by decide +kernel) ?_))
  k_with "inplaceOp Add str str" => ((with_reducible show wpAny _ _ (inplaceOp Operator.Add (Value.str (S _) _) (Value.str (Str.ofString _) _)) _ _ _); k_dflt (refine iadd_lit [10] (by decide +kernel) (by tb_start) ?_); intro _ _)
  k_with "room" => (k_dflt ((first | apply room4 | apply room3 | apply room2 | apply room1 | apply room0 | apply roomz); assumption; exact rfl))
  repeat' ((fail_if_success (with_reducible show wpAny _ _ (execs (Stmt.Assign [Expr.Name (Str.ofString "spelled") _] _ _ :: _) _) _ _ _)); first | (k_unfold; (try dsimp only)) | (k_end; wrow_close) | walk1 | (dsimp only; walk1) | (leave1; try dsimp only))
  · (rename Fr _ _ _ _ => F9)
    (rename News _ _ _ _ => N9)
    k_dflt (refine' head_spec (ns := ns) rfl ?hI1 _ _ rfl rfl _ _ _ _ _ _ _ _ _ _ _ _ _ _ ?B1 F9 ?X1 N9 ?T1 ?hd1 ?hu1 ?hE1 ?ret1)
    (case hI1 => rw [nums5_some (by assumption)]; assumption)
    (case B1 => k_asm)
    (case X1 => k_asm)
    (case T1 => k_asm)
    (case hd1 => ktr_room)
    (case hu1 => ktr_units)
    (case hE1 => passes_own)
    (case ret1 =>
      intro h2 tk2 m2 nw2 F2 N2
      (try k_fold)
      k_steps)
  · (rename Fr _ _ _ _ => F9)
    (rename News _ _ _ _ => N9)
    k_dflt (refine' head_spec (ns := ns) rfl ?hI2 _ _ rfl rfl _ _ _ _ _ _ _ _ _ _ _ _ _ _ ?B2 F9 ?X2 N9 ?T2 ?hd2 ?hu2 ?hE2 ?ret2)
    (case hI2 => rw [nums5_none (by assumption)]; exact .cons _ _ .nil)
    (case B2 => k_asm)
    (case X2 => k_asm)
    (case T2 => k_asm)
    (case hd2 => ktr_room)
    (case hu2 => ktr_units)
    (case hE2 => passes_own)
    (case ret2 =>
      intro h2 tk2 m2 nw2 F2 N2
      (try k_fold)
      k_steps)
end
end Mine
theorem PySem.Challenge.cw_te0074_05_holds : PySem.Challenge.rw_te0074_05.Holds :=
  Mine.walk

import PyProof.Rows.All
import Wide.All
import OpenK.AllK
import Wide.FinOn
import KE.KTryDeepN
import Lean
import PySem.Challenge.RW_mq0066_01
set_option Elab.async false
/- part HD -/
noncomputable section
open PySem PySem.W PyProof.Rows
set_option maxRecDepth 100000
set_option maxHeartbeats 8000000
namespace Mine
open_top hd for PySem.Challenge.rw_mq0066_01
end Mine

end
/- part P1 -/
noncomputable section
open PySem
namespace Mine
open StrLaws

/-! plain texts as lists of numbers -/
abbrev sl (x : Str) : List Nat := x.cps.toList
def mkS (l : List Nat) : Str := ⟨l.toArray⟩
theorem sl_mkS (l : List Nat) : sl (mkS l) = l := by simp [sl, mkS]
theorem mkS_sl (x : Str) : mkS (sl x) = x := by cases x; simp [sl, mkS]
theorem sl_inj {x y : Str} (h : sl x = sl y) : x = y := by rw [← mkS_sl x, ← mkS_sl y, h]
theorem len_sl (x : Str) : x.length = (sl x).length := by simp [sl, Str.length]
theorem len_mkS (l : List Nat) : (mkS l).length = l.length := by rw [len_sl, sl_mkS]
theorem sl_append (x y : Str) : sl (x ++ y) = sl x ++ sl y := by simp [sl, Str.cps_append]
theorem mkS_inj {l r : List Nat} (h : mkS l = mkS r) : l = r := by rw [← sl_mkS l, ← sl_mkS r, h]
theorem beq_mkS (x : Str) (l : List Nat) : (x == mkS l) = decide (sl x = l) := by
  by_cases h : sl x = l
  · have : x = mkS l := by rw [← h, mkS_sl]
    rw [this, sl_mkS]; simp
  · have : x ≠ mkS l := fun e => h (by rw [e, sl_mkS])
    simp [h, this]

/-! slices -/
theorem slice_eq (x : Str) (l u : Option Int) : Txt.slice x l u = sliceText x l u := rfl
theorem sl_slice (x : Str) {a b : Nat} (hab : a ≤ b) (hb : b ≤ x.length) : sl (Txt.slice x (some (a : Int)) (some (b : Int))) = ((sl x).drop a).take (b - a) := by
  rw [slice_eq, sliceText_nat x hab hb]
theorem sl_nil_of_len {x : Str} (h : x.length = 0) : sl x = [] := List.eq_nil_of_length_eq_zero (by rw [← len_sl]; exact h)
theorem sl_slice_short (x : Str) (l u : Option Int) (h : x.length = 0) : sl (Txt.slice x l u) = [] := by
  apply sl_nil_of_len
  have := Txt.slice_le x l u
  omega
theorem sl_slice_to1 (x : Str) : sl (Txt.slice x none (some 1)) = (sl x).take 1 := by
  by_cases h : x.length = 0
  · rw [sl_slice_short x _ _ h, sl_nil_of_len h]; rfl
  · rw [slice_eq, sliceText_to (j := 1) ⟨by decide, by have := len_sl x; simp only [sl] at this; omega⟩]
    simp [sl]
theorem sl_slice_from1 (x : Str) : sl (Txt.slice x (some 1) none) = (sl x).drop 1 := by
  by_cases h : x.length = 0
  · rw [sl_slice_short x _ _ h, sl_nil_of_len h]; rfl
  · rw [slice_eq, sliceText_from (i := 1) ⟨by decide, by have := len_sl x; simp only [sl] at this; omega⟩]
    have e : ((x.cps.toList.length : Int) - 1).toNat = x.cps.toList.length - 1 := by omega
    show List.take _ (List.drop 1 x.cps.toList) = _
    rw [e]
    exact List.take_of_length_le (by simp)
theorem sl_slice_last (x : Str) : sl (Txt.slice x (some (-1)) none) = (sl x).drop ((sl x).length - 1) := by
  by_cases h : x.length = 0
  · rw [sl_slice_short x _ _ h, sl_nil_of_len h]; rfl
  · have hl := len_sl x
    simp only [sl] at hl
    rw [slice_eq, sliceText_from_neg (i := -1) (by decide) (by omega)]
    have e1 : (-1 + (x.length : Int)).toNat = x.cps.toList.length - 1 := by omega
    show List.take _ (List.drop _ x.cps.toList) = _
    rw [e1]
    exact List.take_of_length_le (by rw [List.length_drop]; omega)
theorem sl_slice_init (x : Str) : sl (Txt.slice x none (some (-1))) = (sl x).take ((sl x).length - 1) := by
  by_cases h : x.length = 0
  · rw [sl_slice_short x _ _ h, sl_nil_of_len h]; rfl
  · have hl := len_sl x
    simp only [sl] at hl
    rw [slice_eq, sliceText_to_neg (j := -1) (by decide) (by omega)]
    have e1 : (-1 + (x.length : Int) - 0).toNat = x.cps.toList.length - 1 := by omega
    show List.take _ (List.drop 0 x.cps.toList) = _
    rw [e1, List.drop_zero]
theorem sl_slice_to (x : Str) {b : Nat} (hb : b ≤ x.length) : sl (Txt.slice x none (some (b : Int))) = (sl x).take b := by
  have hl := len_sl x
  simp only [sl] at hl
  rw [slice_eq, sliceText_to (j := (b : Int)) ⟨by omega, by omega⟩]
  simp [sl]
theorem sl_slice_from (x : Str) {a : Nat} (ha : a ≤ x.length) : sl (Txt.slice x (some (a : Int)) none) = (sl x).drop a := by
  have hl := len_sl x
  simp only [sl] at hl
  rw [slice_eq, sliceText_from (i := (a : Int)) ⟨by omega, by omega⟩]
  have e : ((x.cps.toList.length : Int) - (a : Int)).toNat = x.cps.toList.length - a := by omega
  show List.take _ (List.drop (a : Int).toNat x.cps.toList) = _
  rw [e]
  exact List.take_of_length_le (by simp)

/-! the alphabet -/
def okc (c : Nat) : Bool := (48 ≤ c && c ≤ 57) || c == 46 || c == 95 || c == 43 || c == 45 || c == 32 || c == 97
theorem okc_lt {c : Nat} (h : okc c = true) : c < 128 ∧ c ≠ 0 := by
  simp only [okc, Bool.or_eq_true, Bool.and_eq_true, decide_eq_true_eq, beq_iff_eq] at h
  omega
def okl (l : List Nat) : Prop := ∀ c ∈ l, okc c = true

/-! the number that the law reads -/
def blanks (l : List Nat) : List Nat := l.dropWhile (· == 32)
def rblanks (l : List Nat) : List Nat := (l.reverse.dropWhile (· == 32)).reverse
noncomputable def scan : List Nat → Int → Bool → Option Int
  | [], w, u => if u then none else some w
  | c :: r, w, u => if c = 95 then (if u then none else scan r w true) else if 48 ≤ c ∧ c ≤ 57 then scan r (10 * w + c - 48) false else none
def unsign (p : List Nat) : List Nat := if p.take 1 = [43] ∨ p.take 1 = [45] then p.drop 1 else p
def signed (p : List Nat) (n : Int) : Int := if p.take 1 = [45] then -n else n
def lawNum (l : List Nat) : Option Int := (scan (unsign (rblanks (blanks l))) 0 true).map (signed (rblanks (blanks l)))

theorem okl_dropWhile {l : List Nat} (h : okl l) (p : Nat → Bool) : okl (l.dropWhile p) := fun c hc => h c (List.dropWhile_subset p hc)
theorem okl_reverse {l : List Nat} (h : okl l) : okl l.reverse := fun c hc => h c (List.mem_reverse.mp hc)
theorem okl_blanks {l : List Nat} (h : okl l) : okl (blanks l) := okl_dropWhile h _
theorem okl_rblanks {l : List Nat} (h : okl l) : okl (rblanks l) := okl_reverse (okl_dropWhile (okl_reverse h) _)
theorem okl_drop {l : List Nat} (h : okl l) (n : Nat) : okl (l.drop n) := fun c hc => h c (List.mem_of_mem_drop hc)
theorem okl_take {l : List Nat} (h : okl l) (n : Nat) : okl (l.take n) := fun c hc => h c (List.mem_of_mem_take hc)
theorem okl_unsign {l : List Nat} (h : okl l) : okl (unsign l) := by
  unfold unsign; split
  · exact okl_drop h 1
  · exact h

open NumText in
theorem blank_ok {c : Nat} (h : okc c = true) : blank c = (c == 32) := by
  simp only [okc, Bool.or_eq_true, Bool.and_eq_true, decide_eq_true_eq, beq_iff_eq] at h
  unfold blank
  have : ¬ (9 ≤ c ∧ c ≤ 13) := by omega
  have e : (decide (9 ≤ c) && decide (c ≤ 13)) = false := by
    rw [Bool.eq_false_iff]; intro q; rw [Bool.and_eq_true, decide_eq_true_eq, decide_eq_true_eq] at q; exact this q
  rw [e, Bool.or_false]
theorem dropWhile_congr {p q : Nat → Bool} : ∀ {l : List Nat}, (∀ c ∈ l, p c = q c) → l.dropWhile p = l.dropWhile q
  | [], _ => rfl
  | c :: r, h => by
    rw [List.dropWhile_cons, List.dropWhile_cons, h c (.head _), dropWhile_congr fun d hd => h d (.tail _ hd)]

def dval (ds : Array Nat) : Nat := ds.foldl (fun acc d => acc * 10 + d) 0
open NumText in
theorem scan_digits : ∀ (cs : List Nat) (ds : Array Nat) (b : Bool), okl cs →
    ((cs.foldlM (NumText.step 10) (ds, b)).bind fun p => if p.2 then some p.1 else none).map (fun d => (dval d : Int)) = scan cs (dval ds) (!b)
  | [], ds, b, _ => by cases b <;> rfl
  | c :: r, ds, b, h => by
    have hc := h c (.head _)
    have hr : okl r := fun d hd => h d (.tail _ hd)
    rw [List.foldlM_cons]
    unfold scan
    by_cases h95 : c = 95
    · subst h95
      cases b with
      | false => simp [NumText.step]
      | true =>
        have e : NumText.step 10 (ds, true) 95 = some (ds, false) := by simp [NumText.step]
        rw [e]
        have := scan_digits r ds false hr
        simpa using this
    · rw [if_neg h95]
      have hb : (c == 95) = false := by simpa using h95
      by_cases hd : 48 ≤ c ∧ c ≤ 57
      · rw [if_pos hd]
        have e0 : digit? c = some (c - 48) := by
          unfold digit?
          have : (decide (48 ≤ c) && decide (c ≤ 57)) = true := by simp [hd]
          rw [this]; rfl
        have e : NumText.step 10 (ds, b) c = some (ds.push (c - 48), true) := by
          have hlt : c - 48 < 10 := by omega
          simp [NumText.step, hb, e0, hlt]
        rw [e]
        have := scan_digits r (ds.push (c - 48)) true hr
        have ev : ((dval (ds.push (c - 48)) : Nat) : Int) = 10 * (dval ds : Int) + c - 48 := by
          unfold dval
          rw [Array.foldl_push]
          omega
        rw [ev] at this
        simpa using this
      · rw [if_neg hd]
        have e : NumText.step 10 (ds, b) c = none := by
          simp only [okc, Bool.or_eq_true, Bool.and_eq_true, decide_eq_true_eq, beq_iff_eq] at hc
          unfold NumText.step
          rw [hb]
          by_cases h97 : c = 97
          · subst h97; rfl
          · have : digit? c = none := by
              unfold digit?
              have a1 : (decide (48 ≤ c) && decide (c ≤ 57)) = false := by
                rw [Bool.eq_false_iff]; intro q; rw [Bool.and_eq_true, decide_eq_true_eq, decide_eq_true_eq] at q; exact hd q
              have a2 : (decide (97 ≤ c) && decide (c ≤ 122)) = false := by
                rw [Bool.eq_false_iff]; intro q; rw [Bool.and_eq_true, decide_eq_true_eq, decide_eq_true_eq] at q; omega
              have a3 : (decide (65 ≤ c) && decide (c ≤ 90)) = false := by
                rw [Bool.eq_false_iff]; intro q; rw [Bool.and_eq_true, decide_eq_true_eq, decide_eq_true_eq] at q; omega
              rw [a1, a2, a3]; rfl
            rw [this]; rfl
        rw [e]; rfl

end Mine

end
/- part P2 -/
noncomputable section
open PySem
namespace Mine
open StrLaws NumText Builtin Builtin.Str

theorem takeWhile_all {p : Nat → Bool} : ∀ {l : List Nat}, (∀ c ∈ l, p c = true) → l.takeWhile p = l
  | [], _ => rfl
  | c :: r, h => by rw [List.takeWhile_cons, if_pos (h c (.head _)), takeWhile_all fun d hd => h d (.tail _ hd)]

theorem numText_ok {x : Str} (h : okl (sl x)) : numTextOf x = sl x := by
  have : x.cps.all (· < 128) = true := by
    rw [Array.all_eq_true']
    intro c hc
    exact decide_eq_true (okc_lt (h c (by simpa [sl] using hc))).1
  show (if x.cps.all (· < 128) = true then x.cps.toList else _) = _
  rw [if_pos this]
theorem numSeen_ok {x : Str} (h : okl (sl x)) : numSeenOf x = sl x := by
  show (numTextOf x).takeWhile (· != 0) = sl x
  rw [numText_ok h]
  exact takeWhile_all fun c hc => by simpa using (okc_lt (h c hc)).2

theorem rdrop_cons {c : Nat} {r : List Nat} (hc : (c == 32) = false) : ((c :: r).reverse.dropWhile (· == 32)).reverse = c :: (r.reverse.dropWhile (· == 32)).reverse := by
  rw [List.reverse_cons]
  have key : ∀ (l : List Nat), (l ++ [c]).dropWhile (· == 32) = l.dropWhile (· == 32) ++ [c] := by
    intro l
    induction l with
    | nil => simp [hc]
    | cons d t ih =>
      rw [List.cons_append, List.dropWhile_cons, List.dropWhile_cons]
      split
      · exact ih
      · rfl
  rw [key, List.reverse_append]
  rfl
theorem blanks_head {l : List Nat} {c : Nat} {r : List Nat} (h : blanks l = c :: r) : (c == 32) = false := by
  have := List.head?_dropWhile_not (fun c : Nat => c == 32) l
  unfold blanks at h
  rw [h] at this
  simpa using this

theorem core_ok {l : List Nat} (h : okl l) : core l = unsign (rblanks (blanks l)) ∧ (sign (l.dropWhile blank)).1 = decide ((rblanks (blanks l)).take 1 = [45]) := by
  have e1 : l.dropWhile blank = blanks l := dropWhile_congr fun c hc => blank_ok (h c hc)
  have e2 : ∀ t : List Nat, okl t → (t.reverse.dropWhile blank).reverse = rblanks t := fun t ht => by
    unfold rblanks
    rw [dropWhile_congr fun c hc => blank_ok (ht c (List.mem_reverse.mp hc))]
  unfold core
  rw [e1]
  have ho := okl_blanks h
  cases hb : blanks l with
  | nil => exact ⟨by rfl, by rfl⟩
  | cons c r =>
    rw [hb] at ho
    have hr : okl r := fun d hd => ho d (.tail _ hd)
    have hc := blanks_head hb
    have er : rblanks (c :: r) = c :: rblanks r := rdrop_cons hc
    rw [er]
    by_cases h45 : c = 45
    · subst h45
      have : sign (45 :: r) = (true, r) := rfl
      rw [this]
      refine ⟨?_, by simp⟩
      rw [e2 r hr]
      simp [unsign]
    · by_cases h43 : c = 43
      · subst h43
        have : sign (43 :: r) = (false, r) := rfl
        rw [this]
        refine ⟨?_, by simp⟩
        rw [e2 r hr]
        simp [unsign]
      · have : sign (c :: r) = (false, c :: r) := by
          unfold sign
          split
          · rename_i q; simp at q; exact absurd q.1 h45
          · rename_i q; simp at q; exact absurd q.1 h43
          · rfl
        rw [this]
        refine ⟨?_, by simp [h45]⟩
        rw [e2 (c :: r) ho, er]
        simp [unsign, h45, h43]

theorem unsign_length (p : List Nat) : (unsign p).length ≤ p.length := by
  unfold unsign; split
  · simp
  · exact Nat.le_refl _

theorem intText_ok {x : Str} (h : okl (sl x)) (hl : x.length ≤ 600) : intText? x = lawNum (sl x) := by
  unfold intText?
  have hs := numSeen_ok h
  have ht := numText_ok h
  rw [if_pos (by rw [hs, ht]; simp)]
  rw [hs]
  obtain ⟨e1, e2⟩ := core_ok h
  rw [e2]
  have hcl := core_length (sl x)
  rw [e1] at hcl ⊢
  have key := scan_digits (unsign (rblanks (blanks (sl x)))) #[] false (okl_unsign (okl_rblanks (okl_blanks h)))
  have hd : digits? 10 (unsign (rblanks (blanks (sl x)))) = ((unsign (rblanks (blanks (sl x)))).foldlM (NumText.step 10) ((#[] : Array Nat), false)).bind fun p => if p.2 then some p.1 else none := rfl
  rw [← hd] at key
  have k2 : scan (unsign (rblanks (blanks (sl x)))) 0 true = (digits? 10 (unsign (rblanks (blanks (sl x))))).map fun d => (dval d : Int) := key.symm
  unfold lawNum
  rw [k2]
  cases hq : digits? 10 (unsign (rblanks (blanks (sl x)))) with
  | none => rfl
  | some ds =>
    have hz := digits_size hq
    have : ds.size ≤ 4300 := by have := len_sl x; omega
    simp only [this, if_true, Option.map_some]
    congr 1
    unfold worth signed dval
    simp only [decide_eq_true_eq]

/-! parts between dots -/
noncomputable def dots : List Nat → List (List Nat)
  | [] => [[]]
  | c :: r => if c = 46 then [] :: dots r else match dots r with
    | p :: ps => (c :: p) :: ps
    | [] => [[c]]
noncomputable def jn : List (List Nat) → List Nat
  | [] => []
  | [x] => x
  | x :: y :: r => x ++ 46 :: jn (y :: r)
theorem dots_ne (l : List Nat) : dots l ≠ [] := by
  cases l with
  | nil => simp [dots]
  | cons c r =>
    unfold dots
    split
    · simp
    · split <;> simp
theorem dots_free {l : List Nat} (h : 46 ∉ l) : dots l = [l] := by
  induction l with
  | nil => rfl
  | cons c r ih =>
    have hc : c ≠ 46 := fun e => h (by simp [e])
    have hr : 46 ∉ r := fun e => h (by simp [e])
    unfold dots
    rw [if_neg hc, ih hr]
theorem dots_cut {a : List Nat} (b : List Nat) (h : 46 ∉ a) : dots (a ++ 46 :: b) = a :: dots b := by
  induction a with
  | nil => simp [dots]
  | cons c r ih =>
    have hc : c ≠ 46 := fun e => h (by simp [e])
    have hr : 46 ∉ r := fun e => h (by simp [e])
    rw [List.cons_append]
    rw [dots, if_neg hc, ih hr]
theorem dots_jn : ∀ {ps : List (List Nat)}, ps ≠ [] → (∀ p ∈ ps, 46 ∉ p) → dots (jn ps) = ps
  | [], h, _ => absurd rfl h
  | [x], _, h => dots_free (h x (.head _))
  | x :: y :: r, _, h => by
    show dots (x ++ 46 :: jn (y :: r)) = _
    rw [dots_cut _ (h x (.head _)), dots_jn (by simp) fun p hp => h p (.tail _ hp)]
theorem dots_parts_free : ∀ (l : List Nat), ∀ p ∈ dots l, 46 ∉ p
  | [], p, hp => by
    have : p = [] := by simpa [dots] using hp
    rw [this]; simp
  | c :: r, p, hp => by
    unfold dots at hp
    split at hp
    · rcases List.mem_cons.mp hp with rfl | hp
      · simp
      · exact dots_parts_free r p hp
    · rename_i hc
      cases hd : dots r with
      | nil => exact absurd hd (dots_ne r)
      | cons q qs =>
        rw [hd] at hp
        have ih := dots_parts_free r
        rw [hd] at ih
        rcases List.mem_cons.mp hp with rfl | hp
        · intro h46
          rcases List.mem_cons.mp h46 with e | e
          · exact hc e.symm
          · exact ih q (.head _) e
        · exact ih p (.tail _ hp)
theorem dots_mem : ∀ (l : List Nat), ∀ p ∈ dots l, ∀ c ∈ p, c ∈ l
  | [], p, hp, c, hc => by
    have : p = [] := by simpa [dots] using hp
    rw [this] at hc; exact absurd hc (by simp)
  | d :: r, p, hp, c, hc => by
    unfold dots at hp
    split at hp
    · rcases List.mem_cons.mp hp with rfl | hp
      · exact absurd hc (by simp)
      · exact .tail _ (dots_mem r p hp c hc)
    · cases hd : dots r with
      | nil => exact absurd hd (dots_ne r)
      | cons q qs =>
        rw [hd] at hp
        have ih := dots_mem r
        rw [hd] at ih
        rcases List.mem_cons.mp hp with rfl | hp
        · rcases List.mem_cons.mp hc with e | e
          · rw [e]; exact .head _
          · exact .tail _ (ih q (.head _) c e)
        · exact .tail _ (ih p (.tail _ hp) c hc)
theorem dots_length_of_mem : ∀ {l : List Nat}, 46 ∈ l → 2 ≤ (dots l).length
  | [], h => absurd h (by simp)
  | c :: r, h => by
    unfold dots
    split
    · have := dots_ne r
      cases hd : dots r with
      | nil => exact absurd hd this
      | cons q qs => simp
    · rename_i hc
      have hr : 46 ∈ r := by
        rcases List.mem_cons.mp h with e | e
        · exact absurd e.symm hc
        · exact e
      have ih := dots_length_of_mem hr
      cases hd : dots r with
      | nil => exact absurd hd (dots_ne r)
      | cons q qs => rw [hd] at ih; simpa using ih

theorem sl_dot : sl (Str.ofString ".") = [46] := by decide +kernel
theorem dot_eq : Str.ofString "." = (⟨#[46]⟩ : Str) := by decide +kernel
theorem sl_join : ∀ (ps : List Str), sl (Str.join (Str.ofString ".") ps) = jn (ps.map sl)
  | [] => rfl
  | [x] => rfl
  | x :: y :: r => by
    show sl (x ++ Str.ofString "." ++ Str.join (Str.ofString ".") (y :: r)) = _
    rw [sl_append, sl_append, sl_dot, sl_join (y :: r)]
    show sl x ++ [46] ++ jn ((y :: r).map sl) = sl x ++ 46 :: jn ((y :: r).map sl)
    rw [List.append_assoc]; rfl
theorem sl_tjoin (ps : List Str) : sl (Txt.join (Str.ofString ".") ps) = jn (ps.map sl) := by
  show sl (glued _ ps) = _
  rw [glued_eq_join, sl_join]
theorem split_ne (x y : Str) : Txt.split x y ≠ [] := by
  unfold Txt.split
  split
  · simp
  · split
    · simp
    · rw [partsBetween_eq]
      obtain ⟨p, r, e⟩ := partsFrom_ne x y.length 0 (occurrences x y 0 x.length (x.length + 1))
      rw [e]; simp
theorem sl_split (x : Str) : (Txt.split x (Str.ofString ".")).map sl = dots (sl x) := by
  have h1 := join_split x (Str.ofString ".")
  have h2 : ∀ p ∈ (Txt.split x (Str.ofString ".")).map sl, 46 ∉ p := by
    intro p hp
    obtain ⟨q, hq, rfl⟩ := List.mem_map.mp hp
    rw [dot_eq] at hq
    exact split_free x 46 q hq
  have h3 : (Txt.split x (Str.ofString ".")).map sl ≠ [] := by
    intro e
    exact split_ne x _ (List.map_eq_nil_iff.mp e)
  rw [← dots_jn h3 h2, ← sl_join, h1]

end Mine

end
/- part P3 -/
noncomputable section
open PySem
namespace Mine
open StrLaws NumText Builtin Builtin.Str

/-! the text of an int -/
def txt (n : Int) : List Nat := sl (Str.ofString (toString n))
theorem txt_nat (m : Nat) : txt (m : Int) = (Nat.toDigits 10 m).map Char.toNat := PySem.W.KIN.signs_num m
theorem txt_neg (m : Nat) : txt (Int.negSucc m) = 45 :: (Nat.toDigits 10 (m + 1)).map Char.toNat := by
  unfold txt sl
  rw [Str.ofString_eq_toList]
  show (("-" ++ Nat.repr (m + 1)).toList.map Char.toNat) = _
  rw [String.toList_append, List.map_append, Nat.toList_repr]
  rfl

def digs (l : List Nat) : Prop := ∀ c ∈ l, 48 ≤ c ∧ c ≤ 57
theorem digs_nat (m : Nat) : digs ((Nat.toDigits 10 m).map Char.toNat) := by
  intro c hc
  obtain ⟨ch, hch, e⟩ := List.mem_map.mp hc
  have r := PyProof.Rows.digit_range (Nat.isDigit_of_mem_toDigits (by decide) (by decide) hch)
  rw [← e]; exact r
theorem nat_ne (m : Nat) : (Nat.toDigits 10 m).map Char.toNat ≠ [] := by
  intro e
  have h := toDigits_len_ge 10 m
  rw [List.map_eq_nil_iff.mp e] at h
  exact absurd h (by decide)
def fval (l : List Nat) (w : Int) : Int := l.foldl (fun (a : Int) (c : Nat) => 10 * a + (c : Int) - 48) w
theorem scan_digs : ∀ (l : List Nat) (w : Int) (u : Bool), digs l → (l ≠ [] ∨ u = false) → scan l w u = some (fval l w)
  | [], w, u, _, h => by
    rcases h with h | h
    · exact absurd rfl h
    · rw [h]; rfl
  | c :: r, w, u, hd, _ => by
    have hc := hd c (.head _)
    unfold scan
    rw [if_neg (by omega), if_pos hc]
    exact scan_digs r _ false (fun d h => hd d (.tail _ h)) (.inr rfl)
theorem fval_nat (m : Nat) : fval ((Nat.toDigits 10 m).map Char.toNat) 0 = m := by
  have hv := PySem.W.KIN.val_back m
  have key : ∀ (l : List Nat) (w : Nat), digs l → fval l (w : Int) = (l.foldl (fun a c => a * 10 + (c - 48)) w : Nat) := by
    intro l
    induction l with
    | nil => intro w _; rfl
    | cons c r ih =>
      intro w hd
      have hc := hd c (.head _)
      show fval r (10 * (w : Int) + c - 48) = _
      have e : (10 * (w : Int) + c - 48) = ((w * 10 + (c - 48) : Nat) : Int) := by omega
      rw [e, ih _ (fun d h => hd d (.tail _ h))]
      rfl
  have := key _ 0 (digs_nat m)
  rw [show ((0 : Nat) : Int) = 0 from rfl] at this
  rw [this]
  exact congrArg _ hv
theorem digs_okl {l : List Nat} (h : digs l) : okl l := fun c hc => by
  have := h c hc
  simp [okc, this]
theorem blanks_of_head {c : Nat} {r : List Nat} (h : c ≠ 32) : blanks (c :: r) = c :: r := by
  unfold blanks
  rw [List.dropWhile_cons, if_neg (by simpa using h)]
theorem rblanks_free {l : List Nat} (h : 32 ∉ l) : rblanks l = l := by
  unfold rblanks
  have : l.reverse.dropWhile (· == 32) = l.reverse := by
    cases hr : l.reverse with
    | nil => rfl
    | cons c r =>
      have : c ≠ 32 := fun e => h (by rw [← List.mem_reverse, hr, e]; exact .head _)
      rw [List.dropWhile_cons, if_neg (by simpa using this)]
  rw [this, List.reverse_reverse]
theorem digs_no {l : List Nat} (h : digs l) {c : Nat} (hc : c < 48 ∨ 57 < c) : c ∉ l := fun hm => by
  have := h c hm; omega
theorem lawNum_digs {l : List Nat} (h : digs l) (hne : l ≠ []) : lawNum l = some (fval l 0) := by
  unfold lawNum
  cases l with
  | nil => exact absurd rfl hne
  | cons c r =>
    have hc := h c (.head _)
    rw [blanks_of_head (by omega), rblanks_free (digs_no h (.inl (by omega)))]
    have e1 : unsign (c :: r) = c :: r := by
      unfold unsign
      rw [if_neg]
      simp; omega
    rw [e1, scan_digs _ _ _ h (.inl (by simp))]
    have e2 : signed (c :: r) (fval (c :: r) 0) = fval (c :: r) 0 := by
      unfold signed
      rw [if_neg]
      simp; omega
    simp [e2]
theorem lawNum_neg {l : List Nat} (h : digs l) (hne : l ≠ []) : lawNum (45 :: l) = some (-fval l 0) := by
  unfold lawNum
  have h32 : 32 ∉ 45 :: l := by
    intro hm
    rcases List.mem_cons.mp hm with e | e
    · cases e
    · exact digs_no h (.inl (by omega)) e
  rw [blanks_of_head (by omega), rblanks_free h32]
  have e1 : unsign (45 :: l) = l := by simp [unsign]
  rw [e1, scan_digs _ _ _ h (.inl hne)]
  simp [signed]
theorem txt_num (n : Int) : lawNum (txt n) = some n := by
  cases n with
  | ofNat m =>
    show lawNum (txt (m : Int)) = some (m : Int)
    rw [txt_nat, lawNum_digs (digs_nat m) (nat_ne m), fval_nat]
  | negSucc m =>
    rw [txt_neg, lawNum_neg (digs_nat (m + 1)) (nat_ne (m + 1)), fval_nat]
    rfl
/-- the signs of an int's text: figures, a minus ahead -/
theorem txt_shape (n : Int) : ∃ ds, digs ds ∧ ds ≠ [] ∧ fval ds 0 = n.natAbs ∧ ((0 ≤ n ∧ txt n = ds) ∨ (n < 0 ∧ txt n = 45 :: ds)) := by
  cases n with
  | ofNat m => exact ⟨_, digs_nat m, nat_ne m, fval_nat m, .inl ⟨Int.natCast_nonneg m, txt_nat m⟩⟩
  | negSucc m => exact ⟨_, digs_nat (m + 1), nat_ne (m + 1), fval_nat (m + 1), .inr ⟨by omega, txt_neg m⟩⟩
theorem txt_signs (n : Int) : ∀ c ∈ txt n, (48 ≤ c ∧ c ≤ 57) ∨ c = 45 := by
  obtain ⟨ds, hd, _, _, h | h⟩ := txt_shape n
  · rw [h.2]; exact fun c hc => .inl (hd c hc)
  · rw [h.2]; intro c hc
    rcases List.mem_cons.mp hc with e | e
    · exact .inr e
    · exact .inl (hd c e)
theorem txt_okl (n : Int) : okl (txt n) := fun c hc => by
  rcases txt_signs n c hc with h | h
  · simp [okc, h]
  · simp [okc, h]
theorem txt_dot (n : Int) : 46 ∉ txt n := fun hm => by
  have := txt_signs n 46 hm; omega

/-! a text with a dot is no number -/
theorem scan_dot : ∀ (l : List Nat) (w : Int) (u : Bool), 46 ∈ l → scan l w u = none
  | [], _, _, h => absurd h (by simp)
  | c :: r, w, u, h => by
    unfold scan
    by_cases h46 : c = 46
    · subst h46; simp
    · have hr : 46 ∈ r := by
        rcases List.mem_cons.mp h with e | e
        · exact absurd e.symm h46
        · exact e
      split
      · split
        · rfl
        · exact scan_dot r _ _ hr
      · split
        · exact scan_dot r _ _ hr
        · rfl
theorem mem_dropWhile {c : Nat} (hc : (c == 32) = false) : ∀ {l : List Nat}, c ∈ l → c ∈ l.dropWhile (· == 32)
  | [], h => h
  | d :: r, h => by
    rw [List.dropWhile_cons]
    split
    · rename_i hd
      rcases List.mem_cons.mp h with e | e
      · subst e; rw [hc] at hd; cases hd
      · exact mem_dropWhile hc e
    · exact h
theorem lawNum_dot {l : List Nat} (h : 46 ∈ l) : lawNum l = none := by
  unfold lawNum
  have h1 : 46 ∈ rblanks (blanks l) := by
    unfold rblanks
    rw [List.mem_reverse]
    exact mem_dropWhile rfl (List.mem_reverse.mpr (mem_dropWhile rfl h))
  have h2 : 46 ∈ unsign (rblanks (blanks l)) := by
    unfold unsign
    split
    · rename_i hs
      cases hq : rblanks (blanks l) with
      | nil => rw [hq] at h1; exact h1
      | cons d r =>
        rw [hq] at h1 hs
        have hd : d ≠ 46 := by
          intro e; subst e; simp at hs
        rcases List.mem_cons.mp h1 with e | e
        · exact absurd e.symm hd
        · exact e
    · exact h1
  rw [scan_dot _ _ _ h2]; rfl

/-! the size of a number -/
theorem scan_bound : ∀ (l : List Nat) (w : Int) (u : Bool) (n : Int), 0 ≤ w → scan l w u = some n → 0 ≤ n ∧ n < (w + 1) * 10 ^ l.length
  | [], w, u, n, hw, h => by
    unfold scan at h
    split at h
    · cases h
    · cases h; simp; omega
  | c :: r, w, u, n, hw, h => by
    unfold scan at h
    have hp : (10 : Int) ^ (c :: r).length = 10 * 10 ^ r.length := by
      rw [List.length_cons, Int.pow_succ]; omega
    have pos : (0 : Int) < 10 ^ r.length := Int.pow_pos (by decide)
    split at h
    · split at h
      · cases h
      · obtain ⟨h1, h2⟩ := scan_bound r w true n hw h
        refine ⟨h1, ?_⟩
        rw [hp]
        have : (w + 1) * 10 ^ r.length ≤ (w + 1) * (10 * 10 ^ r.length) := Int.mul_le_mul_of_nonneg_left (by omega) (by omega)
        omega
    · split at h
      · rename_i hc
        obtain ⟨h1, h2⟩ := scan_bound r (10 * w + c - 48) false n (by omega) h
        refine ⟨h1, ?_⟩
        rw [hp]
        have : (10 * w + c - 48 + 1) * 10 ^ r.length ≤ ((w + 1) * 10) * 10 ^ r.length := Int.mul_le_mul_of_nonneg_right (by omega) (by omega)
        have e : (w + 1) * (10 * 10 ^ r.length) = ((w + 1) * 10) * 10 ^ r.length := by rw [Int.mul_assoc]
        omega
      · cases h
theorem dropWhile_len (p : Nat → Bool) : ∀ l : List Nat, (l.dropWhile p).length ≤ l.length
  | [] => Nat.le_refl _
  | c :: r => by
    rw [List.dropWhile_cons]
    split
    · exact Nat.le_succ_of_le (dropWhile_len p r)
    · exact Nat.le_refl _
theorem core_len (l : List Nat) : (unsign (rblanks (blanks l))).length ≤ l.length := by
  refine Nat.le_trans (unsign_length _) ?_
  unfold rblanks blanks
  rw [List.length_reverse]
  refine Nat.le_trans (dropWhile_len _ _) ?_
  rw [List.length_reverse]
  exact dropWhile_len _ _
theorem lawNum_bound {l : List Nat} {n : Int} (hl : l.length ≤ 9) (h : lawNum l = some n) : n.natAbs < 10 ^ 9 := by
  unfold lawNum at h
  cases hs : scan (unsign (rblanks (blanks l))) 0 true with
  | none => rw [hs] at h; cases h
  | some k =>
    rw [hs] at h
    obtain ⟨h1, h2⟩ := scan_bound _ _ _ _ (Int.le_refl 0) hs
    have h3 : (10 : Int) ^ (unsign (rblanks (blanks l))).length ≤ 10 ^ 9 := by
      have := core_len l
      exact_mod_cast Nat.pow_le_pow_right (by decide) (Nat.le_trans this hl)
    have h4 : k < 10 ^ 9 := by omega
    have h5 : n = signed (rblanks (blanks l)) k := by simpa using h.symm
    unfold signed at h5
    split at h5 <;> omega

end Mine

end
/- part P4 -/
noncomputable section
open PySem
namespace Mine

/-! what the law and the functions make of (head, tail) -/
def piecesOf (h t : List Nat) : List (List Nat) := dots h ++ (if t = [] then [] else [t])
noncomputable def allNums : List (List Nat) → Option (List Int)
  | [] => some []
  | p :: r => match lawNum p, allNums r with
    | some n, some ns => some (n :: ns)
    | _, _ => none
def toldOf (ps : List (List Nat)) : List Nat := match allNums ps with
  | some ns => jn ((ns.map txt).take 3)
  | none => jn (ps.take 3)
def placeOf (l : List Nat) : Option (Int × Int) := match dots l with
  | [a, b] => (match lawNum a, lawNum b with
    | some m, some n => some (m, n)
    | _, _ => none)
  | _ => none
def dueOf (ps : List (List Nat)) : Option (Int × Int) := match allNums ps with
  | some [a, b] => some (a, b)
  | _ => none

theorem allNums_length : ∀ {ps : List (List Nat)} {ns : List Int}, allNums ps = some ns → ns.length = ps.length
  | [], ns, h => by cases h; rfl
  | p :: r, ns, h => by
    unfold allNums at h
    split at h
    · rename_i n ns' h1 h2
      cases h
      simp [allNums_length h2]
    · cases h
theorem allNums_free : ∀ {ps : List (List Nat)} {ns : List Int}, allNums ps = some ns → ∀ p ∈ ps, 46 ∉ p
  | [], _, _, p, hp => absurd hp (by simp)
  | q :: r, ns, h, p, hp => by
    unfold allNums at h
    split at h
    · rename_i n ns' h1 h2
      rcases List.mem_cons.mp hp with rfl | hp
      · intro hm; rw [lawNum_dot hm] at h1; cases h1
      · exact allNums_free h2 p hp
    · cases h
theorem allNums_bound : ∀ {ps : List (List Nat)} {ns : List Int}, allNums ps = some ns → (∀ p ∈ ps, p.length ≤ 9) → ∀ n ∈ ns, n.natAbs < 10 ^ 9
  | [], _, h, _, n, hn => by cases h; exact absurd hn (by simp)
  | q :: r, ns, h, hl, n, hn => by
    unfold allNums at h
    split at h
    · rename_i n' ns' h1 h2
      cases h
      rcases List.mem_cons.mp hn with rfl | hn
      · exact lawNum_bound (hl q (.head _)) h1
      · exact allNums_bound h2 (fun p hp => hl p (.tail _ hp)) n hn
    · cases h
theorem allNums_txt : ∀ ns : List Int, allNums (ns.map txt) = some ns
  | [] => rfl
  | n :: ns => by
    unfold allNums
    rw [List.map_cons]
    simp only [txt_num, allNums_txt ns]
theorem placeOf_dots (l : List Nat) : placeOf l = dueOf (dots l) := by
  unfold placeOf dueOf
  cases hd : dots l with
  | nil => exact absurd hd (dots_ne l)
  | cons a r =>
    cases r with
    | nil =>
      simp only [allNums]
      cases lawNum a <;> rfl
    | cons b r =>
      cases r with
      | nil =>
        simp only [allNums]
        cases lawNum a <;> cases lawNum b <;> rfl
      | cons c r =>
        show none = _
        cases hn : allNums (a :: b :: c :: r) with
        | none => rfl
        | some ns =>
          have := allNums_length hn
          match ns, this with
          | _ :: _ :: _ :: _, _ => rfl
theorem pieces_ne (h t : List Nat) : piecesOf h t ≠ [] := by
  unfold piecesOf
  have := dots_ne h
  intro e
  exact this (List.append_eq_nil_iff.mp e).1
theorem pieces_head_free (h t : List Nat) : ∀ p ∈ (piecesOf h t).dropLast, 46 ∉ p := by
  intro p hp
  unfold piecesOf at hp
  by_cases ht : t = []
  · rw [if_pos ht, List.append_nil] at hp
    exact dots_parts_free h p (List.dropLast_subset _ hp)
  · rw [if_neg ht, List.dropLast_concat] at hp
    exact dots_parts_free h p hp
/-- joined by dots and cut again: the same parts, if none but the last holds a dot: two parts only if there were two free of dots -/
theorem dots_two {ps : List (List Nat)} (hne : ps ≠ []) (hf : ∀ p ∈ ps.dropLast, 46 ∉ p) {a b : List Nat} (h : dots (jn ps) = [a, b]) (h1 : 2 ≤ ps.length) : ps = [a, b] := by
  match ps, hne, h1 with
  | [x, y], _, _ =>
    have hx : 46 ∉ x := hf x (by simp)
    have e : jn [x, y] = x ++ 46 :: y := rfl
    rw [e, dots_cut y hx] at h
    injection h with h1 h2
    have hy : 46 ∉ y := by
      intro hm
      have := dots_length_of_mem hm
      rw [h2] at this
      simp at this
    rw [dots_free hy] at h2
    injection h2 with h2 _
    rw [h1, h2]
  | x :: y :: z :: r, _, _ =>
    have hx : 46 ∉ x := hf x (by simp)
    have hy : 46 ∉ y := hf y (by simp)
    have e : jn (x :: y :: z :: r) = x ++ 46 :: (y ++ 46 :: jn (z :: r)) := rfl
    rw [e, dots_cut _ hx, dots_cut _ hy] at h
    have := congrArg List.length h
    have hd := dots_ne (jn (z :: r))
    cases hq : dots (jn (z :: r)) with
    | nil => exact absurd hq hd
    | cons q qs => rw [hq] at this; simp at this
theorem dueOf_none {ps : List (List Nat)} (h : allNums ps = none) : dueOf ps = none := by unfold dueOf; rw [h]
theorem dueOf_two {ps : List (List Nat)} (h : allNums ps = none) {a b : List Nat} (e : ps = [a, b]) : dueOf [a, b] = none := by rw [← e]; exact dueOf_none h
theorem place_bad {ps qs : List (List Nat)} (hn : allNums ps = none) (hne : qs ≠ []) (hf : ∀ p ∈ qs.dropLast, 46 ∉ p) (hq : qs.length = 2 → qs = ps) (h1 : qs.length = 1 → ∀ p ∈ qs, 46 ∉ p) : placeOf (jn qs) = none := by
  rw [placeOf_dots]
  by_cases hl : 2 ≤ qs.length
  · match hd : dots (jn qs) with
    | [a, b] =>
      have e := dots_two hne hf hd hl
      have : qs = ps := hq (by rw [e]; rfl)
      rw [← this] at hn
      exact dueOf_two hn e
    | [] => rfl
    | [a] =>
      unfold dueOf allNums
      cases lawNum a <;> rfl
    | a :: b :: c :: r =>
      unfold dueOf
      cases hm : allNums (a :: b :: c :: r) with
      | none => rfl
      | some ns =>
        have := allNums_length hm
        match ns, this with
        | _ :: _ :: _ :: _, _ => rfl
  · match qs, hne with
    | [x], _ =>
      have : dots (jn [x]) = [x] := dots_free (h1 rfl x (.head _))
      rw [this]
      unfold dueOf allNums
      cases lawNum x <;> rfl
    | _ :: _ :: _, _ => simp at hl
theorem due_take (ns : List Int) : (match some (ns.take 3) with | some [a, b] => some (a, b) | _ => (none : Option (Int × Int))) = match some ns with | some [a, b] => some (a, b) | _ => none := by
  match ns with
  | [] => rfl
  | [_] => rfl
  | [_, _] => rfl
  | _ :: _ :: _ :: _ => rfl
theorem pieces_one_free {h t : List Nat} (hl : (piecesOf h t).length = 1) : ∀ p ∈ piecesOf h t, 46 ∉ p := by
  intro p hp
  by_cases ht : t = []
  · unfold piecesOf at hp
    rw [if_pos ht, List.append_nil] at hp
    exact dots_parts_free h p hp
  · unfold piecesOf at hl
    rw [if_neg ht, List.length_append] at hl
    have := dots_ne h
    cases hd : dots h with
    | nil => exact absurd hd this
    | cons q qs => rw [hd] at hl; simp at hl

theorem place_told (h t : List Nat) : placeOf (toldOf (piecesOf h t)) = dueOf (piecesOf h t) := by
  unfold toldOf
  cases hn : allNums (piecesOf h t) with
  | some ns =>
    have hlen := allNums_length hn
    have hp := pieces_ne h t
    have hne : (ns.map txt).take 3 ≠ [] := by
      intro e
      have := congrArg List.length e
      rw [List.length_take, List.length_map, hlen] at this
      have : (piecesOf h t).length = 0 := by rw [List.length_nil] at this; omega
      exact hp (List.eq_nil_of_length_eq_zero this)
    have hfree : ∀ p ∈ (ns.map txt).take 3, 46 ∉ p := by
      intro p hp
      obtain ⟨n, _, rfl⟩ := List.mem_map.mp (List.mem_of_mem_take hp)
      exact txt_dot n
    rw [placeOf_dots, dots_jn hne hfree, ← List.map_take]
    unfold dueOf
    rw [allNums_txt, hn]
    exact due_take ns
  | none =>
    rw [dueOf_none hn]
    have hp := pieces_ne h t
    refine place_bad hn ?_ ?_ ?_ ?_
    · cases hq : piecesOf h t with
      | nil => exact absurd hq hp
      | cons a r => simp
    · intro p hm
      apply pieces_head_free h t p
      by_cases h3 : (piecesOf h t).length ≤ 3
      · rwa [List.take_of_length_le h3] at hm
      · have : p ∈ (piecesOf h t).take 3 := List.dropLast_subset _ hm
        rw [List.dropLast_eq_take]
        rw [List.dropLast_eq_take, List.length_take, List.take_take] at hm
        have hle : min (min 3 (piecesOf h t).length - 1) 3 ≤ (piecesOf h t).length - 1 := by omega
        have hs : (piecesOf h t).take (min (min 3 (piecesOf h t).length - 1) 3) = ((piecesOf h t).take ((piecesOf h t).length - 1)).take (min (min 3 (piecesOf h t).length - 1) 3) := by
          rw [List.take_take, Nat.min_eq_left hle]
        rw [hs] at hm
        exact List.mem_of_mem_take hm
    · intro hl
      rw [List.length_take] at hl
      exact List.take_of_length_le (by omega)
    · intro hl
      rw [List.length_take] at hl
      have h1 : (piecesOf h t).length = 1 := by omega
      rw [List.take_of_length_le (by omega)]
      exact pieces_one_free h1

theorem place_join (h t : List Nat) : placeOf (jn (piecesOf h t)) = dueOf (piecesOf h t) := by
  cases hn : allNums (piecesOf h t) with
  | some ns =>
    rw [placeOf_dots, dots_jn (pieces_ne h t) (allNums_free hn)]
  | none =>
    rw [dueOf_none hn]
    exact place_bad hn (pieces_ne h t) (pieces_head_free h t) (fun _ => rfl) pieces_one_free

/-! sizes and signs of the pieces -/
theorem pieces_okl {h t : List Nat} (hh : okl h) (ht : okl t) : ∀ p ∈ piecesOf h t, okl p := by
  intro p hp c hc
  unfold piecesOf at hp
  rcases List.mem_append.mp hp with hp | hp
  · exact hh c (dots_mem h p hp c hc)
  · split at hp
    · exact absurd hp (by simp)
    · have : p = t := by simpa using hp
      rw [this] at hc
      exact ht c hc
theorem dots_weight : ∀ l : List Nat, ((dots l).map (·.length)).sum + (dots l).length = l.length + 1
  | [] => rfl
  | c :: r => by
    have ih := dots_weight r
    unfold dots
    split
    · simp only [List.map_cons, List.sum_cons, List.length_nil, List.length_cons] at ih ⊢; omega
    · cases hd : dots r with
      | nil => exact absurd hd (dots_ne r)
      | cons q qs =>
        rw [hd] at ih
        simp only [List.map_cons, List.sum_cons, List.length_cons] at ih ⊢; omega
theorem pieces_weight (h t : List Nat) : ((piecesOf h t).map (·.length)).sum + (piecesOf h t).length ≤ h.length + t.length + 2 := by
  have := dots_weight h
  unfold piecesOf
  rw [List.map_append, List.sum_append, List.length_append]
  split
  · simp; omega
  · simp; omega
theorem mem_sum_le : ∀ {l : List Nat} {x : Nat}, x ∈ l → x ≤ l.sum
  | [], _, h => absurd h (by simp)
  | y :: r, x, h => by
    rw [List.sum_cons]
    rcases List.mem_cons.mp h with e | e
    · omega
    · have := mem_sum_le e; omega
theorem dots_len {l p : List Nat} (hp : p ∈ dots l) : p.length ≤ l.length := by
  have h1 := dots_weight l
  have h2 : p.length ≤ ((dots l).map (·.length)).sum := mem_sum_le (List.mem_map_of_mem hp)
  have h3 : 1 ≤ (dots l).length := by
    have := dots_ne l
    cases hd : dots l with
    | nil => exact absurd hd this
    | cons q qs => simp
  omega
theorem pieces_len {h t : List Nat} {p : List Nat} (hp : p ∈ piecesOf h t) : p.length ≤ h.length + t.length := by
  unfold piecesOf at hp
  rcases List.mem_append.mp hp with hp | hp
  · have := dots_len hp; omega
  · split at hp
    · exact absurd hp (by simp)
    · have : p = t := by simpa using hp
      rw [this]; omega

end Mine

end
/- part C0 -/
noncomputable section
open PySem PySem.W PyProof.Rows
namespace Mine
open PySem.Calls

noncomputable abbrev LO : List Str := looseW hd.view_39 [Str.ofString "_twin_re_1", Str.ofString "_ver_stages", Str.ofString "_norm_version"]

section
variable {prog : Program} {w : World} {A : Around} {E : Value → Shared → Prop} {s : Shared}

/-- entering a def of the written part: its base is the whole heap at the call -/
theorem enter {K : Frag} {p : Program} {loose : List Str} {mean : ExcName → Option Value} {mg mb : Str → Option Value} {R : Result → Shared → Prop} {name qual : Str} {params : Arguments} {body : List Stmt} {scope : Scope} {dV kV doc pm cdv ct oc : Value} {an od : Option Addr} {osl : Array (Option Value)} {f : Addr} {args : Args} {binds : List (Str × Value)}
    (X : K.In s.heap) (T : Top p loose mean mg mb s.heap)
    (ho : K.lookup f = some ⟨oc, od, .func (fnOf name qual params body scope dV kV doc pm an cdv ct), osl⟩) (hcd : codeIn K cdv qual = true) (hroom : A.depth < recursionLimit)
    (hbind : BindsTo s (fnOf name qual params body scope dV kV doc pm an cdv ct) args binds) (hloc : ∀ y ∈ binds, scope.names.lookup y.1 = some .local)
    (h : ∀ L' h₁, L' = s.heap.objs.size → Fr s.heap L' h₁ (fun y => binds.reverse.lookup y) → News s.heap L' h₁ [] →
      wpAny (model prog w) (A.deeper (envOf qual scope L' f cdv)) (execs body (envOf qual scope L' f cdv))
        (fun fl s' => R (.ok (.ret (match fl with | .ret v => v | _ => .none))) s')
        (fun e s' => wpAny (model prog w) (A.deeper (envOf qual scope L' f cdv)) (leaving (envOf qual scope L' f cdv) e) (fun _ s'' => R (.error e) s'') (fun e' s'' => R (.error e') s'') s')
        { s with heap := h₁, toks := s.toks + binds.length })
    (hco : scope.isCoroutine = false) (hgen : scope.isGenerator = false) (hk : scope.kind = .function)
    (hcell : ∀ x ∈ scope.names, x.2 ≠ .cell) : codeAny (model prog w) A (.call (.ref f) args) R s := by
  refine codeAny_call_def (fd := fnOf name qual params body scope dV kV doc pm an cdv ct) (body := body) (binds := binds) hroom (X _ _ ho) rfl T.nolimit (codeRec_of X hcd) rfl hbind hcell hloc (fun h₁ hns hk₁ => ?_) hco hgen hk
  exact h _ _ rfl ⟨hns, fun b o e => hk₁ b o e, Nat.le_refl _⟩ News.nil

theorem while_inv {M : Model} {σ : Type} {env : Env} {test : Expr} {body : List Stmt} {pos : Pos} {Q : Flow → Shared → Prop} {prog : Program} {w : World} (hM : M = model prog w) (St : σ → Shared → Prop) (μ : σ → Nat)
    (turn : ∀ a s, St a s → wpAny M A (isTrue test env (eval test env)) (fun b s₂ => if b then wpAny M A (execs body env) (fun f s₃ => match f with
        | .next | .cont => ∃ a', μ a' < μ a ∧ St a' s₃
        | _ => False) (fun _ _ => False) s₂ else Q .next s₂) (fun _ _ => False) s)
    (a : σ) (h : St a s) : wpAny M A (exec (.While test body [] pos) env) Q E s := by
  subst hM
  refine wpAny_While ?_
  refine codeAny_whileLoop (fun n s => ∃ a, μ a = n ∧ St a s) ?_ (μ a) ⟨a, rfl, h⟩
  rintro n s ⟨a, rfl, ha⟩
  refine wpAny_mono (turn a s ha) (fun b s₂ h₂ => ?_) (fun _ _ h => h.elim)
  cases b with
  | false => exact wpAny_execs_nil h₂
  | true =>
    refine wpAny_mono h₂ (fun f s₃ h₃ => ?_) (fun _ _ h => h.elim)
    cases f with
    | next => obtain ⟨a', h1, h2⟩ := h₃; exact ⟨_, h1, a', rfl, h2⟩
    | cont => obtain ⟨a', h1, h2⟩ := h₃; exact ⟨_, h1, a', rfl, h2⟩
    | brk => exact h₃.elim
    | ret v => exact h₃.elim
end
section
variable {prog : Program} {w : World} {A : Around} {E : Value → Shared → Prop} {s : Shared}
theorem forLoop_inv {R : Result → Shared → Prop} {target : Expr} {body : List Stmt} {env : Env} {I : Addr} {fp : List Addr} {n : Nat} {P : Nat → Value → Prop} {St : Nat → Heap → Prop} {h₀ : Heap} {m : Str → Option Value} {news : List (Addr × Obj)}
    (W : Walks prog w A I fp [I] n P St) (J : Nat → (Str → Option Value) → List (Addr × Obj) → Prop) (hIL : env.locals ≠ I) (hwr : h₀.get? I = none)
    (hSt : ∀ i h, St i h → ∃ o, h.get? I = some o) (hfp : ∀ b ∈ fp, b ≠ I → (∃ o, h₀.get? b = some o) ∨ ∃ o, ∀ i m news₁, J i m news₁ → (b, o) ∈ news₁)
    (F : Fr h₀ env.locals s.heap m) (N : News h₀ env.locals s.heap news) (hnw : ∀ p ∈ news, p.1 ≠ I) (hst : St 0 s.heap) (hj : J 0 m news)
    (turn : ∀ i v m₁ news₁ oI h tk, i < n → P i v → J i m₁ news₁ → (∀ p ∈ news₁, p.1 ≠ I) → Fr h₀ env.locals h m₁ → News h₀ env.locals h ((I, oI) :: news₁) →
      wpAny (model prog w) A (assign target env v) (fun _ s₂ => wpAny (model prog w) A (execs body env) (fun f s₃ => match f with
        | .next | .cont => ∃ h' tk' m' news', s₃ = { s with heap := h', toks := tk' } ∧ Fr h₀ env.locals h' m' ∧ News h₀ env.locals h' ((I, oI) :: news') ∧ (∀ p ∈ news', p.1 ≠ I) ∧ J (i + 1) m' news'
        | .brk => R (.ok .next) s₃
        | .ret v => R (.ok (.ret v)) s₃) (fun _ _ => False) s₂) (fun _ _ => False) { s with heap := h, toks := tk })
    (done : ∀ m₁ news₁ h tk, J n m₁ news₁ → Fr h₀ env.locals h m₁ → News h₀ env.locals h news₁ → R (.ok .next) { s with heap := h, toks := tk })
    (ht : ∀ v, letOwnedTupleGo target (.ref I) v = pure () := by intro _; rfl) :
    codeAny (model prog w) A (.forLoop target (.ref I) body [] env) R s := by
  refine codeAny_forLoop (fun k s' => ∃ i h tk m₁ news₁, s' = { s with heap := h, toks := tk } ∧ k = n + 1 - i ∧ i ≤ n ∧ St i h ∧ Fr h₀ env.locals h m₁ ∧ News h₀ env.locals h news₁ ∧ (∀ p ∈ news₁, p.1 ≠ I) ∧ J i m₁ news₁) ?_ (n + 1)
    ⟨0, s.heap, s.toks, m, news, rfl, rfl, Nat.zero_le _, hst, F, N, hnw, hj⟩ ht
  rintro k s' ⟨i, h, tk, m₁, news₁, rfl, rfl, hi, hsi, F₁, N₁, hw₁, hj₁⟩
  have back : ∀ h', (∀ b o, b ∉ [I] → h.get? b = some o → h'.get? b = some o) → Fr h₀ env.locals h' m₁ ∧ News h₀ env.locals h' news₁ := fun h' hk =>
    ⟨⟨F₁.ns.at' fun o e => hk _ o (fun q => hIL (List.mem_singleton.mp q)) e, fun b o e => hk b o (fun q => by rw [List.mem_singleton.mp q, hwr] at e; cases e) (F₁.keep b o e), F₁.above⟩,
      fun p hp => ⟨hk p.1 p.2 (fun q => hw₁ p hp (List.mem_singleton.mp q)) (N₁ p hp).1, (N₁ p hp).2⟩⟩
  by_cases hlt : i < n
  · refine W.item i _ _ _ hlt hsi fun v h' tk' hv hst' hk => ?_
    obtain ⟨F₂, N₂⟩ := back h' hk
    obtain ⟨oI, hoI⟩ := hSt _ _ hst'
    have NO : News h₀ env.locals h' ((I, oI) :: news₁) := by
      intro p hp
      rcases List.mem_cons.mp hp with rfl | hp
      · exact ⟨hoI, Ne.symm hIL, hwr⟩
      · exact N₂ p hp
    refine wpAny_mono (turn i v m₁ news₁ oI h' tk' hlt hv hj₁ hw₁ F₂ NO) (fun _ s₂ h₂ => ?_) (fun _ _ h => h.elim)
    refine wpAny_mono h₂ (fun f s₃ h₃ => ?_) (fun _ _ h => h.elim)
    have fin : (∃ h'' tk'' m' news', s₃ = { s with heap := h'', toks := tk'' } ∧ Fr h₀ env.locals h'' m' ∧ News h₀ env.locals h'' ((I, oI) :: news') ∧ (∀ p ∈ news', p.1 ≠ I) ∧ J (i + 1) m' news') →
        ∃ k, k < n + 1 - i ∧ ∃ i h tk m₁ news₁, s₃ = { s with heap := h, toks := tk } ∧ k = n + 1 - i ∧ i ≤ n ∧ St i h ∧ Fr h₀ env.locals h m₁ ∧ News h₀ env.locals h news₁ ∧ (∀ p ∈ news₁, p.1 ≠ I) ∧ J i m₁ news₁ := by
      rintro ⟨h'', tk'', m', news', e, F₃, N₃, hw₃, hj₃⟩
      refine ⟨n + 1 - (i + 1), by omega, i + 1, h'', tk'', m', news', e, rfl, hlt, ?_, F₃, fun p hp => N₃ p (List.mem_cons_of_mem _ hp), hw₃, hj₃⟩
      refine W.frame _ _ _ hst' fun b hb o ho => ?_
      by_cases hbI : b = I
      · subst hbI
        rw [hoI] at ho
        cases ho
        exact (N₃ _ (.head _)).1
      · rcases hfp b hb hbI with ⟨o', e'⟩ | ⟨o', e'⟩
        · have := F₂.keep _ _ e'
          rw [ho] at this
          cases this
          exact F₃.keep _ _ e'
        · have := (N₂ _ (e' _ _ _ hj₁)).1
          rw [ho] at this
          cases this
          exact (N₃ _ (List.mem_cons_of_mem _ (e' _ _ _ hj₃))).1
    cases f with
    | next => exact fin h₃
    | cont => exact fin h₃
    | brk => exact h₃
    | ret v => exact h₃
  · have hn : i = n := by omega
    subst hn
    refine W.done _ _ _ hsi fun h' tk' hk => wpAny_execs_nil ?_
    obtain ⟨F₂, N₂⟩ := back h' hk
    exact done m₁ news₁ h' tk' hj₁ F₂ N₂
theorem for_str {R : Result → Shared → Prop} {target : Expr} {body : List Stmt} {env : Env} {h₀ : Heap} {m : Str → Option Value} {news : List (Addr × Obj)} {x : Str} {t : Tok}
    (hh : A.handled = none) (J : Nat → (Str → Option Value) → List (Addr × Obj) → Prop)
    (F : Fr h₀ env.locals s.heap m) (N : News h₀ env.locals s.heap news) (hj : J 0 m news)
    (turn : ∀ i c u m₁ news₁ I oI h tk, (sl x)[i]? = some c → J i m₁ news₁ → I = s.heap.objs.size → (∀ p ∈ news₁, p.1 ≠ I) → Fr h₀ env.locals h m₁ → News h₀ env.locals h ((I, oI) :: news₁) →
      wpAny (model prog w) A (assign target env (.str ⟨#[c]⟩ u)) (fun _ s₂ => wpAny (model prog w) A (execs body env) (fun f s₃ => match f with
        | .next | .cont => ∃ h' tk' m' news', s₃ = { s with heap := h', toks := tk' } ∧ Fr h₀ env.locals h' m' ∧ News h₀ env.locals h' ((I, oI) :: news') ∧ (∀ p ∈ news', p.1 ≠ I) ∧ J (i + 1) m' news'
        | .brk => R (.ok .next) s₃
        | .ret v => R (.ok (.ret v)) s₃) (fun _ _ => False) s₂) (fun _ _ => False) { s with heap := h, toks := tk })
    (done : ∀ m₁ news₁ h tk, J (sl x).length m₁ news₁ → Fr h₀ env.locals h m₁ → News h₀ env.locals h news₁ → R (.ok .next) { s with heap := h, toks := tk })
    (ht : ∀ I v, letOwnedTupleGo target (.ref I) v = pure () := by intro _ _; rfl) :
    wpAny (model prog w) A (pyIter (.str x t)) (fun it s₂ => codeAny (model prog w) A (.forLoop target it body [] env) R s₂) E s := by
  have key : ∀ (o : Obj) (St : Nat → Heap → Prop), (∀ i h, St i h → ∃ o, h.get? s.heap.objs.size = some o) → Walks prog w A s.heap.objs.size [s.heap.objs.size] [s.heap.objs.size] x.cps.size (SignAt x) St → St 0 (s.heap.push o) →
      codeAny (model prog w) A (.forLoop target (.ref s.heap.objs.size) body [] env) R { s with heap := s.heap.push o } := by
    intro o St hSt W hst
    have hlt : ∀ p ∈ news, p.1 < s.heap.objs.size := fun p hp => Heap.lt_size (N p hp).1
    refine forLoop_inv (h₀ := h₀) (news := news) W J ?_ ?_ hSt ?_ (F.push o) ?_ ?_ hst hj ?_ ?_ (ht _)
    · exact Nat.ne_of_lt F.ns.lt
    · exact next_is_new F
    · intro b hb hne
      exact absurd (List.mem_singleton.mp hb) hne
    · exact fun p hp => ⟨Heap.get?_push_of_some _ (N p hp).1, (N p hp).2⟩
    · exact fun p hp => Nat.ne_of_lt (hlt p hp)
    · rintro i v m₁ news₁ oI h tk hi ⟨c, u, hc, rfl⟩ hj₁ hw F₁ N₁
      exact turn i c u m₁ news₁ s.heap.objs.size oI h tk (by simpa [sl] using hc) hj₁ rfl hw F₁ N₁
    · intro m₁ news₁ h tk hj₁ F₁ N₁
      refine done m₁ news₁ h tk ?_ F₁ N₁
      have e : (sl x).length = x.cps.size := by simp [sl]
      rw [e]; exact hj₁
  cases ha : x.cps.all (· < 128)
  · exact wpAny_pyIter_wide ha (key _ _ (fun i h st => let ⟨o, ho, _⟩ := st; ⟨o, ho⟩) (Walks.strWide hh _ x t) ⟨_, Heap.get?_push_size _ rfl, rfl, rfl⟩)
  · exact wpAny_pyIter_ascii ha (key _ _ (fun i h st => let ⟨o, ho, _⟩ := st; ⟨o, ho⟩) (Walks.strAscii hh _ x t) ⟨_, Heap.get?_push_size _ rfl, rfl, rfl⟩)
end
theorem news_sub {h₀ h : Heap} {L : Addr} {l l' : List (Addr × Obj)} (N : News h₀ L h l) (hs : ∀ p ∈ l', p ∈ l) : News h₀ L h l' := fun p hp => N p (hs p hp)
theorem fr_at {h₀ h : Heap} {L : Addr} {m : Str → Option Value} {k : Str} {v : Value} (F : Fr h₀ L h m) (e : m k = some v) : Fr h₀ L h (fun z => if z = k then some v else m z) := by
  have : (fun z => if z = k then some v else m z) = m := by
    funext z
    by_cases hz : z = k
    · rw [if_pos hz, hz, e]
    · rw [if_neg hz]
  rw [this]; exact F
noncomputable def over : List (Str × Value) → (Str → Option Value) → Str → Option Value
  | [], m => m
  | (k, v) :: r, m => fun z => if z = k then some v else over r m z
theorem over_eq : ∀ {l : List (Str × Value)} {m : Str → Option Value}, (∀ p ∈ l, m p.1 = some p.2) → over l m = m
  | [], _, _ => rfl
  | (k, v) :: r, m, h => by
    have ih := over_eq (l := r) (m := m) fun p hp => h p (.tail _ hp)
    funext z
    show (if z = k then some v else over r m z) = m z
    rw [ih]
    by_cases hz : z = k
    · rw [if_pos hz, hz]; exact (h (k, v) (.head _)).symm
    · rw [if_neg hz]
theorem fr_ats {h₀ h : Heap} {L : Addr} {m : Str → Option Value} (l : List (Str × Value)) (F : Fr h₀ L h m) (e : ∀ p ∈ l, m p.1 = some p.2) : Fr h₀ L h (over l m) := by
  rw [over_eq e]; exact F
theorem ats1 {m : Str → Option Value} {k₁ : Str} {v₁ : Value} (h₁ : m k₁ = some v₁) : ∀ p ∈ [(k₁, v₁)], m p.1 = some p.2 := by
  intro p hp
  cases hp with
  | head => exact h₁
  | tail _ hp => exact nomatch hp
theorem atsC {m : Str → Option Value} {k₁ : Str} {v₁ : Value} {l : List (Str × Value)} (h₁ : m k₁ = some v₁) (h : ∀ p ∈ l, m p.1 = some p.2) : ∀ p ∈ (k₁, v₁) :: l, m p.1 = some p.2 := by
  intro p hp
  cases hp with
  | head => exact h₁
  | tail _ hp => exact h p hp
theorem fr_eq {h₀ h : Heap} {L : Addr} {m m' : Str → Option Value} (F : Fr h₀ L h m) (e : ∀ z, m z = m' z) : Fr h₀ L h m' := (funext e : m = m') ▸ F
end Mine

end
/- part C1 -/
noncomputable section
open PySem PySem.W PyProof.Rows
namespace Mine
open PySem.Calls

section
variable {prog : Program} {w : World} {A : Around} {E : Value → Shared → Prop} {s : Shared} {env : Env}

theorem range_size {a b : Int} (h : a ≤ b) : Builtin.Range.rangeSize a b 1 = b - a := by
  unfold Builtin.Range.rangeSize
  by_cases hab : a < b
  · simp [hab]
  · have : a = b := by omega
    subst this
    simp
theorem range_small {a b : Int} (h : a ≤ b) (h0 : 0 ≤ a) (h1 : b ≤ 1000) : Builtin.Range.small a b 1 = true := by
  unfold Builtin.Range.small
  rw [range_size h]
  unfold Builtin.Range.rangeFitsLong
  simp
  omega
theorem for_range {R : Result → Shared → Prop} {target : Expr} {body : List Stmt} {h₀ : Heap} {m : Str → Option Value} {news : List (Addr × Obj)} {r : Addr} {lo hi : Int} {t u v : Tok}
    (hh : A.handled = none) (hr : IsRange s.heap r lo hi 1 t u v) (hle : lo ≤ hi) (h0 : 0 ≤ lo) (h1 : hi ≤ 1000) (J : Nat → (Str → Option Value) → List (Addr × Obj) → Prop)
    (F : Fr h₀ env.locals s.heap m) (N : News h₀ env.locals s.heap news) (hj : J 0 m news)
    (turn : ∀ (i : Nat) (u : Tok) m₁ news₁ I oI h tk, lo + (i : Int) < hi → J i m₁ news₁ → I = s.heap.objs.size → (∀ p ∈ news₁, p.1 ≠ I) → Fr h₀ env.locals h m₁ → News h₀ env.locals h ((I, oI) :: news₁) →
      wpAny (model prog w) A (assign target env (.int (lo + (i : Int)) u)) (fun _ s₂ => wpAny (model prog w) A (execs body env) (fun f s₃ => match f with
        | .next | .cont => ∃ h' tk' m' news', s₃ = { s with heap := h', toks := tk' } ∧ Fr h₀ env.locals h' m' ∧ News h₀ env.locals h' ((I, oI) :: news') ∧ (∀ p ∈ news', p.1 ≠ I) ∧ J (i + 1) m' news'
        | .brk => R (.ok .next) s₃
        | .ret v => R (.ok (.ret v)) s₃) (fun _ _ => False) s₂) (fun _ _ => False) { s with heap := h, toks := tk })
    (done : ∀ m₁ news₁ h tk, J (hi - lo).toNat m₁ news₁ → Fr h₀ env.locals h m₁ → News h₀ env.locals h news₁ → R (.ok .next) { s with heap := h, toks := tk })
    (ht : ∀ I v, letOwnedTupleGo target (.ref I) v = pure () := by intro _ _; rfl) :
    wpAny (model prog w) A (pyIter (.ref r)) (fun it s₂ => codeAny (model prog w) A (.forLoop target it body [] env) R s₂) E s := by
  refine wpAny_pyIter_range hr (range_small hle h0 h1) ?_
  have W := Walks.range (prog := prog) (w := w) hh s.heap.objs.size lo 1 (hi - lo).toNat
  have hlt : ∀ p ∈ news, p.1 < s.heap.objs.size := fun p hp => Heap.lt_size (N p hp).1
  refine forLoop_inv (h₀ := h₀) (news := news) W J (Nat.ne_of_lt F.ns.lt) (next_is_new F) (fun i h st => ⟨_, st⟩) ?_ (F.push _) ?_ (fun p hp => Nat.ne_of_lt (hlt p hp)) ?_ hj ?_ done (ht _)
  · intro b hb hne
    exact absurd (List.mem_singleton.mp hb) hne
  · exact fun p hp => ⟨Heap.get?_push_of_some _ (N p hp).1, (N p hp).2⟩
  · rw [range_size hle]
    have e1 : lo + ((0 : Nat) : Int) * 1 = lo := by omega
    have e2 : (((hi - lo).toNat : Nat) : Int) - ((0 : Nat) : Int) = hi - lo := by omega
    show IsRangeIter _ _ (lo + ((0 : Nat) : Int) * 1) ((((hi - lo).toNat : Nat) : Int) - ((0 : Nat) : Int)) 1
    rw [e1, e2]
    exact Heap.get?_push_size _ rfl
  · rintro i v m₁ news₁ oI h tk hi' ⟨t', rfl⟩ hj₁ hw F₁ N₁
    have e : lo + (i : Int) * 1 = lo + i := by omega
    rw [e]
    exact turn i t' m₁ news₁ s.heap.objs.size oI h tk (by omega) hj₁ rfl hw F₁ N₁

theorem comp_src {elt : Expr} {x : Str} {scope : Scope} {cl : List (Str × Addr)} (G : Value → Value → Prop) {a : Addr} {vs : List Value} (hh : A.handled = none) (hl : s.heap.IsList a vs.toArray)
    (helt : ∀ C v s₃ m, s.heap.objs.size ≤ C → v ∈ vs → s₃.heap.Ns C m → m x = some v → (∀ b o, s.heap.get? b = some o → s₃.heap.get? b = some o) → wpAny (model prog w) A (eval elt (compEnvC scope cl C env)) (fun y s₄ => G v y ∧ Keeps s₃ s₄) (fun _ _ => False) s₃)
    {Q : Value → Shared → Prop}
    (hQ : ∀ (I : Addr) (o : Obj) , I = s.heap.objs.size → Walks prog w A I [I, a] [I] vs.length (fun i v => vs.toArray[i]? = some v) (fun i h => h.IsListIter I a i ∧ h.IsList a vs.toArray) →
      ((s.heap.push o).IsListIter I a 0 ∧ (s.heap.push o).IsList a vs.toArray) → (∀ b ∈ [I, a], b < (s.heap.push o).objs.size) →
      QuietOnC prog w A env scope cl x [] elt [I] (fun i v => vs.toArray[i]? = some v) (fun _ => true) G { s with heap := s.heap.push o } → Q (.ref I) { s with heap := s.heap.push o }) :
    wpAny (model prog w) A (pyIter (.ref a)) Q E s := by
  refine wpAny_pyIter_list hl ?_
  obtain ⟨ol, hol, _⟩ := id hl
  have hlt : a < s.heap.objs.size := Heap.lt_size hol
  have hne : a ≠ s.heap.objs.size := Nat.ne_of_lt hlt
  have W := Walks.list (prog := prog) (w := w) hh s.heap.objs.size a hne vs.toArray
  rw [List.size_toArray] at W
  refine hQ s.heap.objs.size _ rfl W ⟨⟨_, Heap.get?_push_size _ rfl, rfl, rfl⟩, hl.at fun o e => Heap.get?_push_of_some _ e⟩ ?_ ?_
  · intro b hb
    rw [Heap.size_push]
    rcases List.mem_cons.mp hb with rfl | hb
    · exact Nat.lt_succ_self _
    · rw [List.mem_singleton.mp hb]; exact Nat.lt_succ_of_lt hlt
  · refine ⟨?_, ?_⟩
    · intro C i v s₃ m₃ E' _ _ _ _ _ _
      exact wpAny_pure ⟨rfl, s₃.heap, s₃.toks, rfl, fun _ _ e => e⟩
    · intro C i v s₃ m₃ E' hC hP _ hn hm hk _
      refine wpAny_mono (helt C v s₃ m₃ ?_ ?_ hn hm ?_) (fun _ _ h => h) (fun _ _ h => h.elim)
      · rw [Heap.size_push] at hC; exact Nat.le_of_succ_le hC
      · have hP' : vs[i]? = some v := by simpa using hP
        exact List.mem_of_getElem? hP'
      · intro b o e
        exact hk b o (fun q => by rw [List.mem_singleton.mp q] at e; exact absurd (Heap.lt_size e) (Nat.lt_irrefl _)) (Heap.get?_push_of_some _ e)

theorem vs_eq {vs ws : List Value} (h1 : ws.length = vs.length) (h2 : ∀ (j : Nat) (v : Value), ws[j]? = some v → vs.toArray[j]? = some v) : ws = vs := by
  apply List.ext_getElem h1
  intro i hi hj
  have := h2 i ws[i] (by simp [hi])
  have e : vs[i]? = some ws[i] := by simpa using this
  rw [List.getElem?_eq_getElem hj] at e
  exact (Option.some.inj e).symm
theorem filter_true (vs : List Value) : vs.filter (fun _ => true) = vs := by simp

theorem comp_eval {elt iter : Expr} {x : Str} {px : Pos} {scope : Scope} {cl : List (Str × Addr)} {pos : Pos} {Q : Value → Shared → Prop} (G : Value → Value → Prop) (hh : A.handled = none)
    (hclos : closureFor scope env = pure cl) (hcell : ∀ y ∈ scope.names, y.2 ≠ .cell) (hkind : scope.kind = .function)
    (hnames : ∀ y ∈ scope.names, y.2 = .local → scope.names.lookup y.1 = some .local) (hx : scope.names.lookup x = some .local)
    (h : wpAny (model prog w) A (eval iter env) (fun xv s₁ => ∃ a vs, xv = .ref a ∧ s₁.heap.IsList a vs.toArray ∧ vs.length ≤ sizeLine ∧
      (∀ C v s₃ m, s₁.heap.objs.size ≤ C → v ∈ vs → s₃.heap.Ns C m → m x = some v → (∀ b o, s₁.heap.get? b = some o → s₃.heap.get? b = some o) → wpAny (model prog w) A (eval elt (compEnvC scope cl C env)) (fun y s₄ => G v y ∧ Keeps s₃ s₄) (fun _ _ => False) s₃) ∧
      (∀ D h' tk ys, s₁.heap.get? D = none → h'.PlainList D ys → Paired G vs ys.toList → (∀ b o, s₁.heap.get? b = some o → h'.get? b = some o) → Q (.ref D) { s₁ with heap := h', toks := tk })) E s)
    (hs : ∀ x, foldedSetIterable iter env x = pure x := by intro _; rfl) :
    wpAny (model prog w) A (eval (.ListComp elt [⟨.Name x px, iter, [], 0⟩] scope pos) env) Q E s := by
  refine wpAny_ListComp_free (fun _ => true) G hclos hcell hkind hnames hx (wpAny_mono h (fun xv s₁ h₁ => ?_) fun _ _ e => e) hs
  obtain ⟨a, vs, rfl, hl, hsz, helt, hQ⟩ := h₁
  refine comp_src G hh hl helt fun I o hI W hst hfp hq => ⟨I, _, _, _, _, _, rfl, W, hsz, hst, hfp, hq, ?_⟩
  intro D h' tk ys ws hD _ hpl hlen hP hF hk
  have e := vs_eq hlen hP
  subst e
  rw [filter_true] at hF
  refine hQ D h' tk ys ?_ hpl hF ?_
  · cases q : s₁.heap.get? D with
    | none => rfl
    | some o' => have := Heap.get?_push_of_some o q; rw [hD] at this; cases this
  · intro b o' e'
    exact hk b o' (fun q => by rw [List.mem_singleton.mp q, hI] at e'; exact absurd (Heap.lt_size e') (Nat.lt_irrefl _)) (Heap.get?_push_of_some _ e')

theorem comp_assign {elt iter : Expr} {x y : Str} {px py : Pos} {scope : Scope} {cl : List (Str × Addr)} {pos spos : Pos} {Q : Flow → Shared → Prop} (G : Value → Value → Prop) (hh : A.handled = none)
    (hsw : swapsWith (.ListComp elt [⟨.Name x px, iter, [], 0⟩] scope pos) (some (.Name y py)) spos.line env = pure true)
    (hclos : closureFor scope env = pure cl) (hcell : ∀ y ∈ scope.names, y.2 ≠ .cell) (hkind : scope.kind = .function)
    (hnames : ∀ y ∈ scope.names, y.2 = .local → scope.names.lookup y.1 = some .local) (hx : scope.names.lookup x = some .local)
    (hy : env.kindOf y = some .local) (hp : (env.scope.kind == .class || (env.scope.kind == .module && env.locals != env.globals)) = false)
    (h : wpAny (model prog w) A (eval iter env) (fun xv s₁ => ∃ a vs m, xv = .ref a ∧ s₁.heap.IsList a vs.toArray ∧ vs.length ≤ sizeLine ∧ s₁.heap.Ns env.locals m ∧
      (∀ C v s₃ m, s₁.heap.objs.size ≤ C → v ∈ vs → s₃.heap.Ns C m → m x = some v → (∀ b o, s₁.heap.get? b = some o → s₃.heap.get? b = some o) → wpAny (model prog w) A (eval elt (compEnvC scope cl C env)) (fun y s₄ => G v y ∧ Keeps s₃ s₄) (fun _ _ => False) s₃) ∧
      (∀ D h' tk ys, s₁.heap.get? D = none → h'.PlainList D ys → Paired G vs ys.toList → h'.Ns env.locals (fun z => if z = y then some (.ref D) else m z) → (∀ b o, b ≠ env.locals → s₁.heap.get? b = some o → h'.get? b = some o) → Q .next { s₁ with heap := h', toks := tk })) E s)
    (hs : ∀ x, foldedSetIterable iter env x = pure x := by intro _; rfl) :
    wpAny (model prog w) A (exec (.Assign [.Name y py] (.ListComp elt [⟨.Name x px, iter, [], 0⟩] scope pos) spos) env) Q E s := by
  refine wpAny_Assign_ListComp_free (fun _ => true) G hsw hclos hcell hkind hnames hx hy hp (wpAny_mono h (fun xv s₁ h₁ => ?_) fun _ _ e => e) hs
  obtain ⟨a, vs, m, rfl, hl, hsz, hn, helt, hQ⟩ := h₁
  refine comp_src G hh hl helt fun I o hI W hst hfp hq => ⟨I, _, _, _, _, _, m, rfl, W, hsz, hst, hfp, ?_, hn.push o, hq, ?_⟩
  · intro q
    have := hn.lt
    rw [List.mem_singleton.mp q, hI] at this
    exact absurd this (Nat.lt_irrefl _)
  intro D h' tk ys ws hD _ hpl hlen hP hF hns hk
  have e := vs_eq hlen hP
  subst e
  rw [filter_true] at hF
  refine hQ D h' tk ys ?_ hpl hF hns ?_
  · cases q : s₁.heap.get? D with
    | none => rfl
    | some o' => have := Heap.get?_push_of_some o q; rw [hD] at this; cases this
  · intro b o' hb e'
    exact hk b o' hb (fun q => by rw [List.mem_singleton.mp q, hI] at e'; exact absurd (Heap.lt_size e') (Nat.lt_irrefl _)) (Heap.get?_push_of_some _ e')

variable {K : Frag} {p : Program} {loose : List Str} {mean : ExcName → Option Value} {mg mb m : Str → Option Value} {M : Model} {scope : Scope} {cl : List (Str × Addr)} {C : Addr} {x : Str} {pos : Pos} {v : Value} {Q : Value → Shared → Prop}
theorem comp_local (hn : s.heap.Ns C m) (hv : m x = some v) (h : Q v s) (hk : scope.kind = .function) (hl : (compEnvC scope cl C env).kindOf x = some .local) (hd : (x == ("__debug__" : Str)) = false) :
    wpAny M A (eval (.Name x pos) (compEnvC scope cl C env)) Q E s := wpAny_Name (wpAny_loadName_local (env := compEnvC scope cl C env) hk hl hn hv h) hd
theorem comp_global (X : K.In s.heap) (T : Top p loose mean mg mb s.heap) (e : nsIn K mainGlobals x = some (some v)) (h : Q v s) (hg : env.globals = mainGlobals) (hk : scope.kind = .function) (hl : (compEnvC scope cl C env).kindOf x = some .globalImplicit) (hd : (x == ("__debug__" : Str)) = false) :
    wpAny M A (eval (.Name x pos) (compEnvC scope cl C env)) Q E s :=
  Name_function_global (env := compEnvC scope cl C env) hk hl (loadGlobal_global (env := compEnvC scope cl C env) (by show s.heap.Ns env.globals mg; rw [hg]; exact T.g) (mg_of X T.g e) h) hd
theorem comp_builtin (X : K.In s.heap) (T : Top p loose mean mg mb s.heap) (e : nsIn K mainGlobals x = some none) (hv : bootBuiltins x = some v) (hn : x ≠ "__name__") (h : Q v s) (hg : env.globals = mainGlobals) (hb : env.builtins = builtinsNs) (hk : scope.kind = .function) (hl : (compEnvC scope cl C env).kindOf x = some .globalImplicit) (hd : (x == ("__debug__" : Str)) = false) :
    wpAny M A (eval (.Name x pos) (compEnvC scope cl C env)) Q E s :=
  Name_function_global (env := compEnvC scope cl C env) hk hl (loadGlobal_builtin (env := compEnvC scope cl C env) (by show s.heap.Ns env.globals mg; rw [hg]; exact T.g) (mg_none_of X T.g e) (by show s.heap.Ns env.builtins mb; rw [hb]; exact T.b) ((T.builtins x hn).trans hv) h) hd
end
end Mine

end
/- part N1 -/
noncomputable section
open PySem PySem.W PyProof.Rows
namespace Mine
open PySem.Calls
local macro_rules | `(tactic| walk_at "s1") => `(tactic| first
  | (k_unfold; (try dsimp only))
  | ((with_reducible show wpAny _ _ _ _ _ _); (fail_if_success (with_reducible show wpAny _ _ (exec (Stmt.For _ _ _ _ _) _) _ _ _)); (fail_if_success (with_reducible show wpAny _ _ (exec (Stmt.While _ _ _ _) _) _ _ _)); walk1)
  | ((with_reducible show ite _ _ _); walk1)
  | (dsimp only; (with_reducible show wpAny _ _ _ _ _ _)))
local macro_rules | `(tactic| walk_at "s0") => `(tactic| ((fail_if_success (with_reducible show wpAny _ _ (exec (Stmt.If _ _ _ _) _) _ _ _)); walk_at "s1"))

theorem head_blank (y : Str) : (Txt.slice y none (some 1) == Str.ofString " ") = decide ((sl y).take 1 = [32]) := by
  have e : Str.ofString " " = mkS [32] := by decide +kernel
  rw [e, beq_mkS, sl_slice_to1]
theorem last_blank (y : Str) : (Txt.slice y (some (-1)) none == Str.ofString " ") = decide ((sl y).drop ((sl y).length - 1) = [32]) := by
  have e : Str.ofString " " = mkS [32] := by decide +kernel
  rw [e, beq_mkS, sl_slice_last]
theorem blanks_step {y : List Nat} (h : y.take 1 = [32]) : blanks (y.drop 1) = blanks y ∧ (y.drop 1).length < y.length := by
  cases y with
  | nil => cases h
  | cons c r =>
    have : c = 32 := by simpa using h
    subst this
    simp [blanks]
theorem blanks_end {y : List Nat} (h : ¬ y.take 1 = [32]) : blanks y = y := by
  cases y with
  | nil => rfl
  | cons c r => exact blanks_of_head (by simpa using h)
theorem rblanks_step {y : List Nat} (h : y.drop (y.length - 1) = [32]) : rblanks (y.take (y.length - 1)) = rblanks y ∧ (y.take (y.length - 1)).length < y.length := by
  have e : y = y.take (y.length - 1) ++ [32] := by
    conv => lhs; rw [← List.take_append_drop (y.length - 1) y]
    rw [h]
  have hl : y.length ≠ 0 := by intro h0; rw [List.eq_nil_of_length_eq_zero h0] at h; cases h
  refine ⟨?_, by rw [List.length_take]; omega⟩
  generalize y.take (y.length - 1) = q at e
  subst e
  unfold rblanks
  rw [List.reverse_append]
  simp
theorem rblanks_end {y : List Nat} (h : ¬ y.drop (y.length - 1) = [32]) : rblanks y = y := by
  unfold rblanks
  cases hr : y.reverse with
  | nil => have : y = [] := by simpa using hr
           rw [this]; rfl
  | cons c r =>
    have hy : y = r.reverse ++ [c] := by
      have := congrArg List.reverse hr
      rw [List.reverse_reverse, List.reverse_cons] at this
      exact this
    have hc : c ≠ 32 := by
      intro e; subst e; apply h
      rw [hy]
      simp
    rw [List.dropWhile_cons, if_neg (by simpa using hc), ← hr, List.reverse_reverse]

theorem head_minus (y : Str) : (Txt.slice y none (some 1) == Str.ofString "-") = decide ((sl y).take 1 = [45]) := by
  have e : Str.ofString "-" = mkS [45] := by decide +kernel
  rw [e, beq_mkS, sl_slice_to1]
theorem head_sign (y : Str) : ([Str.ofString "+", Str.ofString "-"].any fun q => q == Txt.slice y none (some 1)) = decide ((sl y).take 1 = [43] ∨ (sl y).take 1 = [45]) := by
  have e1 : Str.ofString "-" = mkS [45] := by decide +kernel
  have e2 : Str.ofString "+" = mkS [43] := by decide +kernel
  have sw : ∀ l : List Nat, (mkS l == Txt.slice y none (some 1)) = decide ((sl y).take 1 = l) := fun l => by
    rw [← sl_slice_to1, ← beq_mkS]
    by_cases h : mkS l = Txt.slice y none (some 1)
    · simp [h]
    · have : ¬ Txt.slice y none (some 1) = mkS l := fun e => h e.symm
      rw [beq_eq_false_iff_ne.mpr h, beq_eq_false_iff_ne.mpr this]
  rw [e1, e2]
  simp [sw]

theorem one_is (c : Nat) (q : String) (d : Nat) (e : Str.ofString q = mkS [d]) : ((⟨#[c]⟩ : Str) == Str.ofString q) = decide (c = d) := by
  rw [e, beq_mkS]
  show decide ([c] = [d]) = _
  simp
theorem figs_eq : sl (Str.ofString "0123456789") = [48, 49, 50, 51, 52, 53, 54, 55, 56, 57] := by decide +kernel
theorem one_fig (c : Nat) : (Builtin.Str.occurrences (Str.ofString "0123456789") ⟨#[c]⟩ 0 (Str.ofString "0123456789").length 1).isEmpty = !decide (48 ≤ c ∧ c ≤ 57) := by
  have h := StrLaws.found_one (Str.ofString "0123456789") c
  have e : decide (c ∈ (Str.ofString "0123456789").cps.toList) = decide (48 ≤ c ∧ c ≤ 57) := by
    have : (Str.ofString "0123456789").cps.toList = [48, 49, 50, 51, 52, 53, 54, 55, 56, 57] := figs_eq
    rw [this]
    apply decide_eq_decide.mpr
    simp
    omega
  rw [e] at h
  rw [← h, Bool.not_not]
theorem scan_at {l : List Nat} {i c : Nat} (h : l[i]? = some c) (n : Int) (u : Bool) : scan (l.drop i) n u = if c = 95 then (if u then none else scan (l.drop (i + 1)) n true) else if 48 ≤ c ∧ c ≤ 57 then scan (l.drop (i + 1)) (10 * n + c - 48) false else none := by
  obtain ⟨hi, e⟩ := List.getElem?_eq_some_iff.mp h
  rw [List.drop_eq_getElem_cons hi, e]
  rfl

def numV (o : Option Int) (v : Value) : Prop := match o with
  | none => v = .none
  | some n => ∃ t, v = .int n t

set_option maxRecDepth 100000 in
set_option maxHeartbeats 8000000 in
theorem number_spec {w : World} {A : Around} {s : Shared} {Q E : Value → Shared → Prop} {mean : ExcName → Option Value} {mg mb : Str → Option Value} (x : Str) (tk : Tok)
  (hx : x.length ≤ 600) (X : (hd.heap_39 w.params).In s.heap) (T : Top hd.view_39 LO mean mg mb s.heap)
  (hroom : A.depth + 5 < recursionLimit) (hu : A.units + 50 < cLine) (hh : A.handled = none) 
  (hret : ∀ v h' tk', (∀ b o, s.heap.get? b = some o → h'.get? b = some o) → numV (lawNum (sl x)) v → Q v { s with heap := h', toks := tk' }) :
      wpAny (model PySem.Challenge.rw_mq0066_01.row.prog w) A (call (.ref 78) [.str x tk]) Q E s := by
  revert X; k_fill; intro X
  refine wpAny_call ?_
  k_dflt (refine' enter X T ?ho ?hcd ?hr ?hb ?hl ?_ ?c2 ?c3 ?c4 ?c5)
  case ho => k_is
  case hcd => k_is
  case hr => omega
  case hb => exact BindsTo.of_eq rfl
  case hl => exact locs rfl
  case c2 => rfl
  case c3 => rfl
  case c4 => rfl
  case c5 => decide
  intro L' h₁ hL F N
  refine wpAny_mono (E := fun _ _ => False) ?_ (fun _ _ h => h) (fun _ _ h => h.elim)
  k_fold
  refine wpAny_execs_cons ?_
  -- while piece[:1] == ' '
  refine wpAny_mono (Q := fun f s' => f = .next ∧ ∃ y m h' tk', s' = { s with heap := h', toks := tk' } ∧ Fr s.heap L' h' m ∧ (∃ t, m (Str.ofString "piece") = some (.str y t)) ∧ sl y = blanks (sl x) ∧ y.length ≤ x.length) ?_ ?_ (fun _ _ h => h)
  · refine while_inv rfl (σ := Str) (fun y s' => ∃ m h' tk', s' = { s with heap := h', toks := tk' } ∧ Fr s.heap L' h' m ∧ (∃ t, m (Str.ofString "piece") = some (.str y t)) ∧ y.length ≤ x.length ∧ blanks (sl y) = blanks (sl x)) (fun y => y.length) ?_ x ?_
    · rintro y s' ⟨m, h', tk', rfl, F', ⟨t, hm⟩, hy, hb⟩
      have N' : News s.heap L' h' [] := News.nil
      replace F' := fr_at F' hm
      clear F N
      repeat' walk_at "s1"
      · rename (_ == _) = true => hc
        rename Fr _ _ _ _ => F'
        rw [head_blank, decide_eq_true_eq] at hc
        obtain ⟨e1, e2⟩ := blanks_step hc
        refine ⟨Txt.slice y (some 1) none, ?_, _, _, _, rfl, F', ⟨_, rfl⟩, ?_, ?_⟩
        · rw [len_sl, len_sl, sl_slice_from1]; exact e2
        · rw [len_sl, sl_slice_from1]; rw [len_sl] at hy; omega
        · rw [sl_slice_from1, e1, hb]
      · rename (_ == _) = false => hc
        rename Fr _ _ _ _ => F'
        rw [head_blank, decide_eq_false_iff_not] at hc
        exact ⟨rfl, y, _, _, _, rfl, F', ⟨_, rfl⟩, by rw [← hb, blanks_end hc], hy⟩
    · exact ⟨_, _, _, rfl, F, ⟨_, rfl⟩, Nat.le_refl _, rfl⟩
  rintro _ _ ⟨rfl, y, m, h', tk', rfl, F', ⟨t, hm⟩, hy, hyl⟩
  clear F N
  dsimp only
  refine wpAny_execs_cons ?_
  -- while piece[-1:] == ' '
  refine wpAny_mono (Q := fun f s' => f = .next ∧ ∃ y m h' tk', s' = { s with heap := h', toks := tk' } ∧ Fr s.heap L' h' m ∧ (∃ t, m (Str.ofString "piece") = some (.str y t)) ∧ sl y = rblanks (blanks (sl x)) ∧ y.length ≤ x.length) ?_ ?_ (fun _ _ h => h)
  · refine while_inv rfl (σ := Str) (fun y s' => ∃ m h' tk', s' = { s with heap := h', toks := tk' } ∧ Fr s.heap L' h' m ∧ (∃ t, m (Str.ofString "piece") = some (.str y t)) ∧ y.length ≤ x.length ∧ rblanks (sl y) = rblanks (blanks (sl x))) (fun y => y.length) ?_ y ?_
    · rintro z s' ⟨m, h', tk', rfl, F'', ⟨t, hm⟩, hz, hb⟩
      have N' : News s.heap L' h' [] := News.nil
      replace F'' := fr_at F'' hm
      clear F'
      repeat' walk_at "s1"
      · rename (_ == _) = true => hc
        rename Fr _ _ _ _ => F'
        rw [last_blank, decide_eq_true_eq] at hc
        obtain ⟨e1, e2⟩ := rblanks_step hc
        refine ⟨Txt.slice z none (some (-1)), ?_, _, _, _, rfl, F', ⟨_, rfl⟩, ?_, ?_⟩
        · rw [len_sl, len_sl, sl_slice_init]; exact e2
        · rw [len_sl, sl_slice_init]; rw [len_sl] at hz; omega
        · rw [sl_slice_init, e1, hb]
      · rename (_ == _) = false => hc
        rename Fr _ _ _ _ => F'
        rw [last_blank, decide_eq_false_iff_not] at hc
        exact ⟨rfl, z, _, _, _, rfl, F', ⟨_, rfl⟩, by rw [← hb, rblanks_end hc], hz⟩
    · exact ⟨_, _, _, rfl, F', ⟨_, hm⟩, hyl, by rw [hy]⟩
  rintro _ _ ⟨rfl, z, m', h', tk', rfl, F'', ⟨t', hm'⟩, hz, hzl⟩
  clear F' hm hy hyl
  replace F'' := fr_at F'' hm'
  have N' : News s.heap L' h' [] := News.nil
  dsimp only
  repeat' walk_at "s0"
  -- if piece[:1] in ['+', '-']: piece = piece[1:]
  refine wpAny_mono (Q := fun f s' => f = .next ∧ ∃ y m h' tk', s' = { s with heap := h', toks := tk' } ∧ Fr s.heap L' h' m ∧ (∃ t, m (Str.ofString "piece") = some (.str y t)) ∧ m (Str.ofString "below") = some (.bool (decide ((sl z).take 1 = [45]))) ∧ sl y = unsign (sl z) ∧ y.length ≤ x.length) ?_ ?_ (fun _ _ h => h)
  · repeat' walk_at "s1"
    · rename (List.any _ _) = true => hc
      rename Fr _ _ _ _ => F'
      rw [head_sign, decide_eq_true_eq] at hc
      refine ⟨rfl, _, _, _, _, rfl, F', ⟨_, rfl⟩, ?_, ?_, ?_⟩
      · rw [← head_minus]; rfl
      · rw [sl_slice_from1, unsign, if_pos hc]
      · have := Txt.slice_le z (some 1) none; omega
    · rename (List.any _ _) = false => hc
      rename Fr _ _ _ _ => F'
      rw [head_sign, decide_eq_false_iff_not] at hc
      refine ⟨rfl, _, _, _, _, rfl, F', ⟨_, rfl⟩, ?_, ?_, hzl⟩
      · rw [← head_minus]; rfl
      · rw [unsign, if_neg hc]
  rintro _ _ ⟨rfl, y, m, h', tk', rfl, F', ⟨t, hm⟩, hbel, hy, hyl⟩
  clear hm'
  replace F' := fr_ats _ F' (atsC hm (ats1 hbel))
  simp only [over] at F'
  have N' : News s.heap L' h' [] := News.nil
  dsimp only
  repeat' walk_at "s0"
  refine wpAny_mono (Q := fun f s' => (f = .ret .none ∧ scan (sl y) 0 true = none ∧ ∃ h' tk', s' = { s with heap := h', toks := tk' } ∧ (∀ b o, s.heap.get? b = some o → h'.get? b = some o)) ∨ (f = .next ∧ ∃ n u m h' tk', s' = { s with heap := h', toks := tk' } ∧ Fr s.heap L' h' m ∧ (∃ a t, m (Str.ofString "ahead") = some (.str a t) ∧ (a == Str.ofString "_") = u) ∧ (∃ t, m (Str.ofString "worth") = some (.int n t)) ∧ m (Str.ofString "below") = some (.bool (decide ((sl z).take 1 = [45]))) ∧ scan (sl y) 0 true = scan [] n u)) ?_ ?_ (fun _ _ h => h)
  · rename Fr _ _ _ _ => F'
    refine wpAny_For ?_
    walk_at "s1"
    refine for_str (by exact hh) (fun i m _ => ∃ n u, (∃ a t, m (Str.ofString "ahead") = some (.str a t) ∧ (a == Str.ofString "_") = u) ∧ (∃ t, m (Str.ofString "worth") = some (.int n t)) ∧ m (Str.ofString "below") = some (.bool (decide ((sl z).take 1 = [45]))) ∧ scan (sl y) 0 true = scan ((sl y).drop i) n u) F' News.nil ⟨0, true, ⟨_, _, rfl, by decide +kernel⟩, ⟨_, rfl⟩, rfl, rfl⟩ ?_ ?_
    · rintro i c u m₁ news₁ I own h tk hc ⟨n, v, ⟨a, t, ha, hav⟩, ⟨t', hw⟩, hb, hs⟩ hI hn F₁ N₁
      replace F₁ := fr_ats _ F₁ (atsC ha (atsC hw (ats1 hb)))
      simp only [over] at F₁
      clear F'
      repeat' walk_at "s1"
      all_goals (try dsimp only)
      · rename (_ == _) = true => hc2
        rename ((⟨#[c]⟩ : Str) == _) = true => hc1
        rw [one_is c "_" 95 (by decide +kernel), decide_eq_true_eq] at hc1
        rename Fr _ _ _ _ => F'
        refine .inl ⟨rfl, ?_, _, _, rfl, F'.keep⟩
        rw [hs, scan_at hc, if_pos hc1, ← hav, if_pos hc2]
      · rename (_ == _) = false => hc2
        rename ((⟨#[c]⟩ : Str) == _) = true => hc1
        rw [one_is c "_" 95 (by decide +kernel), decide_eq_true_eq] at hc1
        rename Fr _ _ _ _ => F'
        rename News _ _ _ _ => N'
        refine ⟨_, _, _, _, rfl, F', N', hn, n, true, ⟨_, _, rfl, ?_⟩, ⟨_, rfl⟩, rfl, ?_⟩
        · rw [one_is c "_" 95 (by decide +kernel), hc1]; rfl
        · rw [hs, scan_at hc, if_pos hc1, ← hav, if_neg (by rw [hc2]; decide)]
      · rename ((⟨#[c]⟩ : Str) == _) = false => hc1
        rename List.isEmpty _ = true => hc2
        rw [one_is c "_" 95 (by decide +kernel), decide_eq_false_iff_not] at hc1
        rw [one_fig, Bool.not_eq_true', decide_eq_false_iff_not] at hc2
        rename Fr _ _ _ _ => F'
        refine .inl ⟨rfl, ?_, _, _, rfl, F'.keep⟩
        rw [hs, scan_at hc, if_neg hc1, if_neg hc2]
      · rename ((⟨#[c]⟩ : Str) == _) = false => hc1
        rename List.isEmpty _ = false => hc2
        have hc1' := hc1
        rw [one_is c "_" 95 (by decide +kernel), decide_eq_false_iff_not] at hc1
        rw [one_fig, Bool.not_eq_false', decide_eq_true_eq] at hc2
        rename Fr _ _ _ _ => F'
        rename News _ _ _ _ => N'
        refine ⟨_, _, _, _, rfl, F', N', hn, 10 * n + c - 48, false, ⟨_, _, rfl, hc1'⟩, ⟨_, rfl⟩, rfl, ?_⟩
        rw [hs, scan_at hc, if_neg hc1, if_pos hc2]
    · rintro m₁ news₁ h tk ⟨n, v, ha, hw, hb, hs⟩ F₁ _
      dsimp only
      refine .inr ⟨rfl, n, v, m₁, h, tk, rfl, F₁, ha, hw, hb, ?_⟩
      rw [hs, List.drop_length]
  rintro f s' (⟨rfl, hs, h', tk', rfl, hk⟩ | ⟨rfl, n, u, m, h', tk', rfl, F', ⟨a, t, ha, hau⟩, ⟨t', hw⟩, hb, hs⟩)
  · dsimp only
    repeat' walk_at "s1"
    refine hret _ _ _ hk ?_
    rw [lawNum, ← hz, ← hy, hs]
    rfl
  · replace F' := fr_ats _ F' (atsC ha (atsC hw (ats1 hb)))
    simp only [over] at F'
    have N' : News s.heap L' h' [] := News.nil
    dsimp only
    repeat' walk_at "s1"
    all_goals (try dsimp only)
    all_goals (k_unfold; dsimp only)
    · rename (_ == _) = true => hc
      refine hret _ _ _ F'.keep ?_
      rw [lawNum, ← hz, ← hy, hs, ← hau, hc]
      rfl
    · rename (_ == _) = false => hc
      rename List.take 1 (sl z) = [45] => hd
      refine hret _ _ _ F'.keep ?_
      rw [lawNum, ← hz, ← hy, hs, ← hau, hc]
      have e : signed (sl z) n = -n := by unfold signed; rw [if_pos hd]
      show numV (some (signed (sl z) n)) _
      rw [e]
      exact ⟨_, rfl⟩
    · rename (_ == _) = false => hc
      rename ¬ List.take 1 (sl z) = [45] => hd
      refine hret _ _ _ F'.keep ?_
      rw [lawNum, ← hz, ← hy, hs, ← hau, hc]
      have e : signed (sl z) n = n := by unfold signed; rw [if_neg hd]
      show numV (some (signed (sl z) n)) _
      rw [e]
      exact ⟨_, rfl⟩
end Mine

end
/- part N2C -/
noncomputable section
open PySem PySem.W PyProof.Rows
namespace Mine
open PySem.Calls
local macro_rules | `(tactic| walk_at "s1") => `(tactic| first
  | (k_unfold; (try dsimp only))
  | ((with_reducible show wpAny _ _ _ _ _ _); (fail_if_success (with_reducible show wpAny _ _ (exec (Stmt.For _ _ _ _ _) _) _ _ _)); (fail_if_success (with_reducible show wpAny _ _ (exec (Stmt.While _ _ _ _) _) _ _ _)); walk1)
  | ((with_reducible show ite _ _ _); walk1)
  | (dsimp only; (with_reducible show wpAny _ _ _ _ _ _)))
local macro_rules | `(tactic| walk_at "s0") => `(tactic| ((fail_if_success (with_reducible show wpAny _ _ (exec (Stmt.If _ _ _ _) _) _ _ _)); walk_at "s1"))
local macro_rules | `(tactic| walk_at "enter") => `(tactic| (
  refine wpAny_call ?_
  k_dflt (refine' enter (by assumption) (by assumption) ?ho ?hcd ?hr ?hb ?hl ?_ ?c2 ?c3 ?c4 ?c5)
  (case ho => k_is)
  (case hcd => k_is)
  (case hr => omega)
  (case hb => first | exact BindsTo.of_eq rfl | exact binds_K (by assumption) rfl (by k_is) rfl rfl rfl)
  (case hl => exact locs rfl)
  (case c2 => rfl)
  (case c3 => rfl)
  (case c4 => rfl)
  (case c5 => decide)))
theorem strValues_len (l : List (Str × Tok)) : (strValues l).length = l.length := by simp [strValues]
theorem strValues_snoc (l : List (Str × Tok)) (p : Str) (t : Tok) : strValues (l ++ [(p, t)]) = strValues l ++ [.str p t] := by simp [strValues]
theorem one_isB (c : Nat) (q : String) (d : Nat) (e : Str.ofString q = mkS [d]) : ((⟨#[c]⟩ : Str) == Str.ofString q) = decide (c = d) := by
  rw [e, beq_mkS]
  show decide ([c] = [d]) = _
  simp
/-- the loop over head: parts closed so far, the open one -/
def pstep (st : List (List Nat) × List Nat) (c : Nat) : List (List Nat) × List Nat := if c = 46 then (st.1 ++ [st.2], []) else (st.1, st.2 ++ [c])
theorem pfold_dots : ∀ (l : List Nat) (a : List (List Nat)) (p : List Nat), (l.foldl pstep (a, p)).1 ++ [(l.foldl pstep (a, p)).2] = a ++ (match dots l with | q :: qs => (p ++ q) :: qs | [] => [])
  | [], a, p => by simp [dots]
  | c :: r, a, p => by
    rw [List.foldl_cons]
    by_cases hc : c = 46
    · have e : pstep (a, p) c = (a ++ [p], []) := by simp [pstep, hc]
      rw [e, pfold_dots r]
      cases hd : dots r with
      | nil => exact absurd hd (dots_ne r)
      | cons q qs => simp [dots, hc, hd]
    · have e : pstep (a, p) c = (a, p ++ [c]) := by simp [pstep, hc]
      rw [e, pfold_dots r]
      cases hd : dots r with
      | nil => exact absurd hd (dots_ne r)
      | cons q qs => simp [dots, hc, hd]
theorem pfold_all (l : List Nat) : (l.foldl pstep ([], [])).1 ++ [(l.foldl pstep ([], [])).2] = dots l := by
  rw [pfold_dots]
  cases hd : dots l with
  | nil => exact absurd hd (dots_ne l)
  | cons q qs => rfl

set_option maxRecDepth 100000 in
set_option maxHeartbeats 8000000 in
theorem pieces_spec {w : World} {A : Around} {s : Shared} {Q E : Value → Shared → Prop} {mean : ExcName → Option Value} {mg mb : Str → Option Value} (x y : Str) (tx ty : Tok)
  (hx : x.length ≤ 600) (X : (hd.heap_39 w.params).In s.heap) (T : Top hd.view_39 LO mean mg mb s.heap)
  (hroom : A.depth + 5 < recursionLimit) (hh : A.handled = none) 
  (hret : ∀ l ps ep h' tk', (∀ b o, s.heap.get? b = some o → h'.get? b = some o) → s.heap.get? l = none → h'.get? l = some (listOf (strValues ps).toArray ep) → (ps.map fun p => sl p.1) = piecesOf (sl x) (sl y) → Q (.ref l) { s with heap := h', toks := tk' }) :
      wpAny (model PySem.Challenge.rw_mq0066_01.row.prog w) A (call (.ref 71) [.str x tx, .str y ty]) Q E s := by
  revert X; k_fill; intro X
  walk_at "enter"
  intro L' h₁ hL F N
  refine wpAny_mono (E := fun _ _ => False) ?_ (fun _ _ h => h) (fun _ _ h => h.elim)
  k_fold
  repeat' walk_at "s0"
  refine wpAny_mono (Q := fun f s' => f = .next ∧ ∃ l ps p ep m h' tk', s' = { s with heap := h', toks := tk' } ∧ Fr s.heap L' h' m ∧ News s.heap L' h' [(l, listOf (strValues ps).toArray ep)] ∧ m (Str.ofString "pieces") = some (.ref l) ∧ (∃ t, m (Str.ofString "piece") = some (.str p t)) ∧ m (Str.ofString "tail") = some (.str y ty) ∧ ((ps.map fun q => sl q.1) ++ [sl p]) = dots (sl x)) ?_ ?_ (fun _ _ h => h)
  · rename Fr _ _ _ _ => F'
    rename News _ _ _ _ => N'
    refine wpAny_For ?_
    walk_at "s1"
    refine for_str (by exact hh) (fun i m news => m (Str.ofString "tail") = some (.str y ty) ∧ ∃ l ps p ep, m (Str.ofString "pieces") = some (.ref l) ∧ news = [(l, listOf (strValues ps).toArray ep)] ∧ (∃ t, m (Str.ofString "piece") = some (.str p t)) ∧ ((ps.map fun q => sl q.1), sl p) = ((sl x).take i).foldl pstep ([], []) ∧ ps.length ≤ i ∧ p.length ≤ i) F' N' ⟨rfl, _, [], Str.ofString "", _, rfl, rfl, ⟨_, rfl⟩, by rw [List.take_zero]; decide +kernel, Nat.zero_le _, by decide +kernel⟩ ?_ ?_
    · rintro i c u m₁ news₁ I oI h tk hc ⟨htl, l, ps, p, ep, hpl, rfl, ⟨t, hp⟩, hf, hpl1, hpl2⟩ hI hn F₁ N₁
      replace F₁ := fr_ats _ F₁ (atsC hpl (atsC htl (ats1 hp)))
      simp only [over] at F₁
      have hne : I ≠ l := fun e => hn _ (.head _) e.symm
      clear F' N'
      have htk : ((sl x).take (i + 1)).foldl pstep ([], []) = pstep (((ps.map fun q => sl q.1), sl p)) c := by
        rw [List.take_add_one, hc, List.foldl_append, ← hf]; rfl
      have hix : i < (sl x).length := (List.getElem?_eq_some_iff.mp hc).1
      have hlx := len_sl x
      repeat' walk_at "s1"
      · rename (_ == _) = true => hc1
        rw [one_isB c "." 46 (by decide +kernel), decide_eq_true_eq] at hc1
        refine append_K (by assumption) (by assumption) (by k_upd) ?_ (by rw [List.size_toArray, strValues_len, sizeLine_eq]; omega)
        intro h' F' N'
        repeat' walk_at "s1"
        all_goals (try dsimp only)
        rename Fr _ _ _ _ => F'
        rename News _ _ _ _ => N'
        refine ⟨_, _, _, _, rfl, F', N', ?_, rfl, l, ps ++ [(p, t)], Str.ofString "", ep + 1, rfl, ?_, ⟨_, rfl⟩, ?_, ?_, ?_⟩
        · intro q hq
          rw [List.mem_singleton.mp hq]
          exact Ne.symm hne
        · rw [strValues_snoc, List.push_toArray]
        · rw [htk, pstep, if_pos hc1, List.map_append]; rfl
        · rw [List.length_append]; exact Nat.succ_le_succ hpl1
        · exact Nat.zero_le _
      · rename (_ == _) = false => hc1
        rw [one_isB c "." 46 (by decide +kernel), decide_eq_false_iff_not] at hc1
        all_goals (try dsimp only)
        rename Fr _ _ _ _ => F'
        rename News _ _ _ _ => N'
        refine ⟨_, _, _, _, rfl, F', N', hn, rfl, l, ps, p ++ ⟨#[c]⟩, ep, rfl, rfl, ⟨_, rfl⟩, ?_, ?_, ?_⟩
        · rw [htk, pstep, if_neg hc1, sl_append]
        · omega
        · rw [Str.length_append]; show p.length + 1 ≤ _; omega
    · rintro m₁ news₁ h tk ⟨htl, l, ps, p, ep, hpl, rfl, hp, hf, hpl1, hpl2⟩ F₁ N₁
      refine ⟨rfl, l, ps, p, ep, m₁, h, tk, rfl, F₁, N₁, hpl, hp, htl, ?_⟩
      rw [List.take_length] at hf
      rw [← pfold_all, ← hf]
  rintro _ _ ⟨rfl, l, ps, p, ep, m, h', tk', rfl, F', N', hpl, ⟨t, hp⟩, htl, hf⟩
  replace F' := fr_ats _ F' (atsC hpl (atsC hp (ats1 htl)))
  simp only [over] at F'
  dsimp only
  have hf0 := hf
  have hpl : (ps.map fun q => sl q.1).length + 1 ≤ 601 := by
    have h1 := congrArg List.length hf
    have h2 := dots_weight (sl x)
    have h3 := len_sl x
    rw [List.length_append] at h1
    have : ([sl p] : List (List Nat)).length = 1 := rfl
    omega
  rw [List.length_map] at hpl
  repeat' walk_at "s1"
  refine append_K (by assumption) (by assumption) (by k_upd) ?_ (by rw [List.size_toArray, strValues_len, sizeLine_eq]; omega)
  intro h' F' N'
  clear hf0
  have fin : ∀ (ps' : List (Str × Tok)) ep' h' tk' m', Fr s.heap L' h' m' → News s.heap L' h' [(l, listOf (strValues ps').toArray ep')] → (ps'.map fun p => sl p.1) = piecesOf (sl x) (sl y) → Q (.ref l) { s with heap := h', toks := tk' } :=
    fun ps' ep' h' tk' m' F' N' e => hret l ps' ep' h' tk' F'.keep (N' _ (.head _)).2.2 (N' _ (.head _)).1 e
  have e1 : (strValues ps).toArray.push (.str p t) = (strValues (ps ++ [(p, t)])).toArray := by rw [strValues_snoc, List.push_toArray]
  have e2 : ((ps ++ [(p, t)]).map fun q => sl q.1) = dots (sl x) := by rw [List.map_append]; exact hf
  rw [e1] at N'
  repeat' walk_at "s1"
  · rename (_ != _) = true => hc
    have hy : sl y ≠ [] := by
      intro e
      have : y = Str.ofString "" := sl_inj (by rw [e]; decide +kernel)
      rw [this] at hc
      exact absurd hc (by decide +kernel)
    refine append_K (by assumption) (by assumption) (by k_upd) ?_ (by rw [List.size_toArray, strValues_len, List.length_append, sizeLine_eq]; simp; omega)
    intro h' F' N'
    repeat' walk_at "s1"
    refine fin (ps ++ [(p, t)] ++ [(y, ty)]) _ _ _ _ F' (by rw [strValues_snoc, ← List.push_toArray]; exact N') ?_
    rw [List.map_append, e2]
    unfold piecesOf
    rw [if_neg hy]
    rfl
  · rename (_ != _) = false => hc
    have hy : sl y = [] := by
      have : y = Str.ofString "" := by simpa using hc
      rw [this]; decide +kernel
    refine fin (ps ++ [(p, t)]) _ _ _ _ F' N' ?_
    rw [e2]
    unfold piecesOf
    rw [if_pos hy, List.append_nil]
end Mine

end
/- part N3 -/
noncomputable section
open PySem PySem.W PyProof.Rows
namespace Mine
open PySem.Calls
local macro_rules | `(tactic| walk_at "s1") => `(tactic| first
  | (k_unfold; (try dsimp only))
  | ((with_reducible show wpAny _ _ _ _ _ _); (fail_if_success (with_reducible show wpAny _ _ (exec (Stmt.For _ _ _ _ _) _) _ _ _)); (fail_if_success (with_reducible show wpAny _ _ (exec (Stmt.While _ _ _ _) _) _ _ _)); (fail_if_success (with_reducible show wpAny _ _ (eval (Expr.ListComp _ _ _ _) _) _ _ _)); (fail_if_success (with_reducible show wpAny _ _ (exec (Stmt.Assign _ (Expr.ListComp _ _ _ _) _) _) _ _ _)); walk1)
  | ((with_reducible show ite _ _ _); walk1)
  | (dsimp only; (with_reducible show wpAny _ _ _ _ _ _)))
local macro_rules | `(tactic| walk_at "s0") => `(tactic| ((fail_if_success (with_reducible show wpAny _ _ (exec (Stmt.If _ _ _ _) _) _ _ _)); walk_at "s1"))
local macro_rules | `(tactic| walk_at "enter") => `(tactic| (
  refine wpAny_call ?_
  k_dflt (refine' enter (by assumption) (by assumption) ?ho ?hcd ?hr ?hb ?hl ?_ ?c2 ?c3 ?c4 ?c5)
  (case ho => k_is)
  (case hcd => k_is)
  (case hr => omega)
  (case hb => first | exact BindsTo.of_eq rfl | exact binds_K (by assumption) rfl (by k_is) rfl rfl rfl)
  (case hl => exact locs rfl)
  (case c2 => rfl)
  (case c3 => rfl)
  (case c4 => rfl)
  (case c5 => decide)))
local macro_rules | `(tactic| walk_at "eval Name") => `(tactic| ((with_reducible show wpAny _ _ (eval (Expr.Name _ _) (compEnvC _ _ _ _)) _ _ _); k_dflt (first
  | (refine' comp_local ?n ?v ?_ ?k ?l ?d; (case k => rfl); (case l => rfl); (case d => decide); (case n => assumption); (case v => assumption))
  | (refine' comp_global ?X ?T ?e ?_ ?g ?k ?l ?d; (case g => rfl); (case k => rfl); (case l => rfl); (case d => decide); (case X => assumption); (case T => assumption); (case e => k_is))
  | (refine' comp_builtin ?X ?T ?e ?v ?n ?_ ?g ?b ?k ?l ?d; (case g => rfl); (case b => rfl); (case k => rfl); (case l => rfl); (case d => decide); (case X => assumption); (case T => assumption); (case e => k_is); (case v => boot_by_name); (case n => decide)))))
/-- a sign of the law's table -/
def signV (v : Value) : Prop := ∃ c t, v = .str (mkS [c]) t ∧ okc c = true
abbrev tupOf (h : Str) (th : Tok) (t : Str) (tt : Tok) : Obj := { cls := .type "tuple", data := .seq #[.str h th, .str t tt] }
def CutsAt (n : Nat) (cl : Addr) (news : List (Addr × Obj)) : Prop := ∃ (its : List Value) (ep : Nat) (tup : List (Addr × Obj)), news = (cl, listOf its.toArray ep) :: tup ∧ (∀ p ∈ tup, p.1 ≠ cl) ∧ its.length ≤ n ∧
  ∀ v ∈ its, ∃ a hd th tl tt, v = .ref a ∧ (a, tupOf hd th tl tt) ∈ tup ∧ okl (sl hd) ∧ okl (sl tl) ∧ hd.length + tl.length ≤ 9
theorem cuts_add {n : Nat} {cl : Addr} {its : List Value} {ep : Nat} {tup : List (Addr × Obj)} {a : Addr} {hd tl : Str} {th tt : Tok} (h1 : ∀ p ∈ tup, p.1 ≠ cl) (h2 : its.length ≤ n)
    (h3 : ∀ v ∈ its, ∃ a hd th tl tt, v = .ref a ∧ (a, tupOf hd th tl tt) ∈ tup ∧ okl (sl hd) ∧ okl (sl tl) ∧ hd.length + tl.length ≤ 9) (ha : a ≠ cl) (k1 : okl (sl hd)) (k2 : okl (sl tl)) (k3 : hd.length + tl.length ≤ 9) :
    CutsAt (n + 1) cl ((cl, listOf (its.toArray.push (.ref a)) (ep + 1)) :: (a, tupOf hd th tl tt) :: tup) := by
  refine ⟨its ++ [.ref a], ep + 1, _, by rw [List.push_toArray], ?_, by rw [List.length_append]; exact Nat.succ_le_succ h2, ?_⟩
  · intro p hp
    rcases List.mem_cons.mp hp with rfl | hp
    · exact ha
    · exact h1 p hp
  · intro v hv
    rcases List.mem_append.mp hv with hv | hv
    · obtain ⟨a', hd', th', tl', tt', e, hm, r⟩ := h3 v hv
      exact ⟨a', hd', th', tl', tt', e, .tail _ hm, r⟩
    · exact ⟨a, hd, th, tl, tt, List.mem_singleton.mp hv, .head _, k1, k2, k3⟩
theorem cuts_mono {n k : Nat} {cl : Addr} {news : List (Addr × Obj)} (h : CutsAt n cl news) (hk : n ≤ k) : CutsAt k cl news := by
  obtain ⟨its, ep, tup, e, h1, h2, h3⟩ := h
  exact ⟨its, ep, tup, e, h1, Nat.le_trans h2 hk, h3⟩
theorem cuts_turn2 {h₀ h' : Heap} {L : Addr} {n : Nat} {cl I I2 a : Addr} {oI oI2 : Obj} {its : List Value} {ep : Nat} {tup : List (Addr × Obj)} {hd tl : Str} {th tt : Tok}
    (N : News h₀ L h' ((a, tupOf hd th tl tt) :: (I2, oI2) :: (I, oI) :: (cl, listOf (its.toArray.push (.ref a)) (ep + 1)) :: tup)) (h1 : ∀ p ∈ tup, p.1 ≠ cl) (h2 : its.length ≤ n)
    (h3 : ∀ v ∈ its, ∃ a hd th tl tt, v = .ref a ∧ (a, tupOf hd th tl tt) ∈ tup ∧ okl (sl hd) ∧ okl (sl tl) ∧ hd.length + tl.length ≤ 9)
    (l1 : I2 < a ∧ I < a ∧ cl < a ∧ AllLt a tup) (hI : I ≠ cl) (hI2 : I2 ≠ cl) (hII : I2 ≠ I) (t1 : ∀ p ∈ tup, p.1 ≠ I) (t2 : ∀ p ∈ tup, p.1 ≠ I2) (k1 : okl (sl hd)) (k2 : okl (sl tl)) (k3 : hd.length + tl.length ≤ 9) :
    ∃ nw, News h₀ L h' ((I2, oI2) :: (I, oI) :: nw) ∧ (∀ p ∈ (I, oI) :: nw, p.1 ≠ I2) ∧ (∀ p ∈ nw, p.1 ≠ I) ∧ CutsAt (n + 1) cl nw := by
  refine ⟨(cl, listOf (its.toArray.push (.ref a)) (ep + 1)) :: (a, tupOf hd th tl tt) :: tup, news_sub N ?_, ?_, ?_, cuts_add h1 h2 h3 (Nat.ne_of_gt l1.2.2.1) k1 k2 k3⟩
  · intro p hp
    simp only [List.mem_cons] at hp ⊢
    rcases hp with h | h | h | h | h <;> simp [h]
  · intro p hp
    simp only [List.mem_cons] at hp
    rcases hp with rfl | rfl | rfl | h
    · exact Ne.symm hII
    · exact Ne.symm hI2
    · exact Nat.ne_of_gt l1.1
    · exact t2 p h
  · intro p hp
    simp only [List.mem_cons] at hp
    rcases hp with rfl | rfl | h
    · exact Ne.symm hI
    · exact Nat.ne_of_gt l1.2.1
    · exact t1 p h
theorem cuts_turn1 {h₀ h' : Heap} {L : Addr} {n : Nat} {cl I a : Addr} {oI : Obj} {its : List Value} {ep : Nat} {tup : List (Addr × Obj)} {hd tl : Str} {th tt : Tok}
    (N : News h₀ L h' ((a, tupOf hd th tl tt) :: (I, oI) :: (cl, listOf (its.toArray.push (.ref a)) (ep + 1)) :: tup)) (h1 : ∀ p ∈ tup, p.1 ≠ cl) (h2 : its.length ≤ n)
    (h3 : ∀ v ∈ its, ∃ a hd th tl tt, v = .ref a ∧ (a, tupOf hd th tl tt) ∈ tup ∧ okl (sl hd) ∧ okl (sl tl) ∧ hd.length + tl.length ≤ 9)
    (l1 : I < a ∧ cl < a ∧ AllLt a tup) (hI : I ≠ cl) (t1 : ∀ p ∈ tup, p.1 ≠ I) (k1 : okl (sl hd)) (k2 : okl (sl tl)) (k3 : hd.length + tl.length ≤ 9) :
    ∃ nw, News h₀ L h' ((I, oI) :: nw) ∧ (∀ p ∈ nw, p.1 ≠ I) ∧ CutsAt (n + 1) cl nw := by
  refine ⟨(cl, listOf (its.toArray.push (.ref a)) (ep + 1)) :: (a, tupOf hd th tl tt) :: tup, news_sub N ?_, ?_, cuts_add h1 h2 h3 (Nat.ne_of_gt l1.2.1) k1 k2 k3⟩
  · intro p hp
    simp only [List.mem_cons] at hp ⊢
    rcases hp with h | h | h | h <;> simp [h]
  · intro p hp
    simp only [List.mem_cons] at hp
    rcases hp with rfl | rfl | h
    · exact Ne.symm hI
    · exact Nat.ne_of_gt l1.1
    · exact t1 p h
theorem slice_mem (x : Str) (l u : Option Int) : ∀ c ∈ sl (Txt.slice x l u), c ∈ sl x := by
  intro c hc
  unfold Txt.slice at hc
  split at hc
  · exact hc
  · obtain ⟨i, _, e⟩ := List.mem_filterMap.mp (by simpa [sl] using hc)
    have := Array.mem_of_getElem? e
    simpa [sl] using this
theorem slice_okl {x : Str} (h : okl (sl x)) (l u : Option Int) : okl (sl (Txt.slice x l u)) := fun c hc => h c (slice_mem x l u c hc)
theorem okl_nil : okl (sl (Str.ofString "")) := by
  have : sl (Str.ofString "") = [] := by decide +kernel
  rw [this]; exact fun _ h => nomatch h
theorem ints_mem : ∀ {vs : List Value} {ns : List Int}, IntsAre vs ns → ∀ {v : Value}, v ∈ vs → ∃ n t, v = .int n t := by
  intro vs ns h v hv
  obtain ⟨i, hi, rfl⟩ := List.getElem_of_mem hv
  have hlen := h.length
  obtain ⟨t, ht⟩ := h.get i (ns[i]'(by omega)) (by simp [hlen ▸ hi])
  rw [List.getElem?_eq_getElem hi] at ht
  exact ⟨_, t, Option.some.inj ht⟩
theorem signs_of {vs ys : List Value} (h : Paired (fun _ y => signV y) vs ys) : ∃ l : List (Str × Tok), ys = strValues l ∧ (∀ p ∈ l, ∃ c, p.1 = mkS [c] ∧ okc c = true) ∧ l.length = vs.length := by
  induction h with
  | nil => exact ⟨[], rfl, (fun _ hp => nomatch hp), rfl⟩
  | cons h1 _ ih =>
    obtain ⟨c, t, rfl, hc⟩ := h1
    obtain ⟨l, rfl, hl, hll⟩ := ih
    refine ⟨(mkS [c], t) :: l, rfl, ?_, by simp [hll]⟩
    intro p hp
    rcases List.mem_cons.mp hp with rfl | hp
    · exact ⟨c, rfl, hc⟩
    · exact hl p hp
theorem signs_sum {l : List (Str × Tok)} (h : ∀ p ∈ l, ∃ c, p.1 = mkS [c] ∧ okc c = true) : ((l.map (·.1)).map (·.length)).sum = l.length := by
  induction l with
  | nil => rfl
  | cons p r ih =>
    obtain ⟨c, e, _⟩ := h p (.head _)
    simp only [List.map_cons, List.sum_cons, List.length_cons, ih fun q hq => h q (.tail _ hq)]
    rw [e, len_mkS]
    simp; omega
theorem sl_cat : ∀ ps : List Str, sl (Str.join (Str.ofString "") ps) = (ps.map sl).flatten
  | [] => rfl
  | [x] => by simp [Str.join]
  | x :: y :: r => by
    show sl (x ++ Str.ofString "" ++ Str.join (Str.ofString "") (y :: r)) = _
    have e : sl (Str.ofString "") = [] := by decide +kernel
    rw [sl_append, sl_append, sl_cat (y :: r), e, List.append_nil]
    rfl
theorem join_signs {l : List (Str × Tok)} (h : ∀ p ∈ l, ∃ c, p.1 = mkS [c] ∧ okc c = true) : okl (sl (Txt.join (Str.ofString "") (l.map (·.1)))) ∧ (Txt.join (Str.ofString "") (l.map (·.1))).length = l.length := by
  have e : Txt.join (Str.ofString "") (l.map (·.1)) = Str.join (Str.ofString "") (l.map (·.1)) := StrLaws.glued_eq_join _ _
  rw [e, len_sl, sl_cat]
  constructor
  · intro c hc
    obtain ⟨q, hq, hcq⟩ := List.mem_flatten.mp hc
    obtain ⟨x, hx, rfl⟩ := List.mem_map.mp hq
    obtain ⟨p, hp, rfl⟩ := List.mem_map.mp hx
    obtain ⟨d, e, hd⟩ := h p hp
    rw [e, sl_mkS] at hcq
    rw [List.mem_singleton.mp hcq]; exact hd
  · rw [List.length_flatten, List.map_map]
    have := signs_sum h
    rw [List.map_map] at this
    rw [← this]
    congr 1
    rw [List.map_map]
    apply List.map_congr_left
    intro p _
    exact (len_sl p.1).symm
theorem table_sign (n : Int) (t : Tok) : signV (.str (Txt.item (Str.ofString "0123456789....__+- a") (n.fmod 20)) t) := by
  have h0 : 0 ≤ n.fmod 20 := Int.fmod_nonneg_of_pos n (by decide)
  have h1 : n.fmod 20 < 20 := Int.fmod_lt_of_pos n (by decide)
  have key : ∀ k : Nat, k < 20 → ∃ c, Txt.item (Str.ofString "0123456789....__+- a") (k : Int) = mkS [c] ∧ okc c = true := by
    intro k hk
    refine ⟨((Txt.item (Str.ofString "0123456789....__+- a") (k : Int)).cps.getD 0 0), ?_⟩
    have : ∀ k : Fin 20, Txt.item (Str.ofString "0123456789....__+- a") ((k : Nat) : Int) = mkS [((Txt.item (Str.ofString "0123456789....__+- a") ((k : Nat) : Int)).cps.getD 0 0)] ∧ okc ((Txt.item (Str.ofString "0123456789....__+- a") ((k : Nat) : Int)).cps.getD 0 0) = true := by decide +kernel
    exact this ⟨k, hk⟩
  obtain ⟨c, e, hc⟩ := key (n.fmod 20).toNat (by omega)
  rw [Int.toNat_of_nonneg h0] at e
  exact ⟨c, t, by rw [e], hc⟩
set_option maxRecDepth 100000 in
set_option maxHeartbeats 8000000 in
theorem cuts_spec {w : World} {A : Around} {s : Shared} {Q E : Value → Shared → Prop} {mean : ExcName → Option Value} {mg mb : Str → Option Value} (a : Addr) (vs : List Value) (ns : List Int)
  (ha : s.heap.IsList a vs.toArray) (hi : IntsAre vs ns) (hn : ns.length ≤ 5) (X : (hd.heap_39 w.params).In s.heap) (T : Top hd.view_39 LO mean mg mb s.heap)
  (hroom : A.depth + 5 < recursionLimit) (hh : A.handled = none) 
  (hret : ∀ cl (its : List Value) ep h' tk', (∀ b o, s.heap.get? b = some o → h'.get? b = some o) → s.heap.get? cl = none → h'.get? cl = some (listOf its.toArray ep) → its.length ≤ 1000 →
    (∀ v ∈ its, ∃ a hd th tl tt, v = .ref a ∧ s.heap.get? a = none ∧ h'.get? a = some (tupOf hd th tl tt) ∧ okl (sl hd) ∧ okl (sl tl) ∧ hd.length + tl.length ≤ 9) → Q (.ref cl) { s with heap := h', toks := tk' }) :
      wpAny (model PySem.Challenge.rw_mq0066_01.row.prog w) A (call (.ref 64) [.ref a]) Q E s := by
  revert X; k_fill; intro X
  walk_at "enter"
  intro L' h₁ hL F N
  refine wpAny_mono (E := fun _ _ => False) ?_ (fun _ _ h => h) (fun _ _ h => h.elim)
  k_fold
  repeat' walk_at "s0"
  refine comp_eval (fun _ y => signV y) (by exact hh) rfl (by decide) rfl (by decide) rfl ?_
  walk_at "s1"
  refine ⟨a, vs, rfl, ha.at fun o e => F.keep a o e, by rw [hi.length, sizeLine_eq]; omega, ?_, ?_⟩
  · intro C v s₃ m hC hv hns hm hk
    obtain ⟨n, t, rfl⟩ := ints_mem hi hv
    repeat' walk_at "s1"
    exact ⟨table_sign n _, s₃.heap, _, rfl, fun _ _ e => e⟩
  · intro D h' tk' ys hD hpl hpr hk
    obtain ⟨l, e, hl, hll⟩ := signs_of hpr
    have e' : ys = (strValues l).toArray := by rw [← e]
    subst e'
    have F' : Fr s.heap L' h' _ := ⟨F.ns.at' fun o e => hk _ o e, fun b o e => hk b o (F.keep b o e), F.above⟩
    have N' : News s.heap L' h' [] := News.nil
    have hlen : l.length ≤ 5 := by rw [hll, hi.length]; exact hn
    clear F N
    dsimp only
    repeat' walk_at "s0"
    refine SC.join hpl.isList rfl (joinOk_of ?_) ?_
    · have := signs_sum hl
      have e0 : (Str.ofString "").length = 0 := by decide +kernel
      rw [e0, this, List.length_map]; omega
    intro t' k'
    obtain ⟨hj, hjl⟩ := join_signs hl
    generalize Txt.join (Str.ofString "") (l.map (·.1)) = jx at hj hjl
    rw [← hjl] at hlen
    repeat' walk_at "s0"
    have hx : okl (sl (Str.ofString "5.07" ++ jx)) := by
      rw [sl_append]
      intro c hc
      rcases List.mem_append.mp hc with hc | hc
      · have e : sl (Str.ofString "5.07") = [53, 46, 48, 55] := by decide +kernel
        rw [e] at hc
        revert hc
        simp only [List.mem_cons, List.not_mem_nil, or_false]
        rintro (rfl | rfl | rfl | rfl) <;> decide
      · exact hj c hc
    have hxl : (Str.ofString "5.07" ++ jx).length ≤ 9 := by
      rw [Str.length_append]
      have e : (Str.ofString "5.07").length = 4 := by decide +kernel
      omega
    generalize Str.ofString "5.07" ++ jx = x at *
    refine wpAny_mono (Q := fun f s' => f = .next ∧ ∃ cl m news h' tk', s' = { s with heap := h', toks := tk' } ∧ Fr s.heap L' h' m ∧ News s.heap L' h' news ∧ m (Str.ofString "cuts") = some (.ref cl) ∧ (∃ t, m (Str.ofString "text") = some (.str x t)) ∧ CutsAt 200 cl news) ?_ ?_ (fun _ _ h => h)
    · refine wpAny_For ?_
      repeat' walk_at "s1"
      rename IsRange _ _ _ _ _ _ _ _ => hr
      rename Fr _ _ _ _ => F'
      rename News _ _ _ _ => N'
      refine for_range (by exact hh) hr (by omega) (by omega) (by omega) (fun i m news => ∃ cl, m (Str.ofString "cuts") = some (.ref cl) ∧ (∃ t, m (Str.ofString "text") = some (.str x t)) ∧ CutsAt (1 + 10 * i) cl news) F' N' ?_ ?_ ?_
      · refine ⟨_, rfl, ⟨_, rfl⟩, [_], 0, [(_, _)], rfl, ?_, Nat.le_refl _, ?_⟩
        · intro p hp
          rw [List.mem_singleton.mp hp]
          k_ne
        · intro v hv
          exact ⟨_, _, _, _, _, List.mem_singleton.mp hv, .head _, okl_nil, okl_nil, by decide +kernel⟩
      · rintro i u m₁ news₁ I oI h tk hlt ⟨cl, hcl, ⟨t, htx⟩, its, ep, tup, rfl, q1, q2, q3⟩ hI hnI F₁ N₁
        replace F₁ := fr_ats _ F₁ (atsC hcl (ats1 htx))
        simp only [over] at F₁
        have hIc : I ≠ cl := fun e => hnI _ (.head _) e.symm
        clear F' N'
        repeat' walk_at "s1"
        refine wpAny_mono (Q := fun f s' => f = .next ∧ ∃ m news h' tk', s' = { s with heap := h', toks := tk' } ∧ Fr s.heap L' h' m ∧ News s.heap L' h' ((I, oI) :: news) ∧ (∀ p ∈ news, p.1 ≠ I) ∧ m (Str.ofString "cuts") = some (.ref cl) ∧ (∃ t, m (Str.ofString "text") = some (.str x t)) ∧ CutsAt (1 + 10 * (i + 1)) cl news) ?_ ?_ (fun _ _ h => h)
        · refine wpAny_For ?_
          repeat' walk_at "s1"
          rename IsRange _ _ _ _ _ _ _ _ => hr
          rename Fr _ _ _ _ => F'
          rename News _ _ _ _ => N'
          refine for_range (by exact hh) hr (by omega) (by omega) (by omega) (fun j m news => m (Str.ofString "cuts") = some (.ref cl) ∧ (∃ t, m (Str.ofString "text") = some (.str x t)) ∧ m (Str.ofString "i") = some (.int (0 + (i : Int)) u) ∧ ∃ nw, news = (I, oI) :: nw ∧ (∀ p ∈ nw, p.1 ≠ I) ∧ CutsAt (1 + 10 * i + j) cl nw) F' N' ⟨rfl, ⟨_, rfl⟩, rfl, _, rfl, hnI, its, ep, tup, rfl, q1, q2, q3⟩ ?_ ?_
          · clear F' N' q1 q2 q3 hr
            rintro j u2 m₂ news₂ I2 oI2 h tk hlt2 ⟨hcl, ⟨t, htx⟩, hii, nw, rfl, hnI, its, ep, tup, rfl, q1, q2, q3⟩ hI2 hnI2 F₁ N₁
            replace F₁ := fr_ats _ F₁ (atsC hcl (atsC htx (ats1 hii)))
            simp only [over] at F₁
            have hI2c : I2 ≠ cl := fun e => hnI2 _ (.tail _ (.head _)) e.symm
            have hI2I : I2 ≠ I := fun e => hnI2 _ (.head _) e.symm
            repeat' walk_at "s1"
            rename _ ∧ _ ∧ _ ∧ _ => l1
            rename Fr _ _ _ _ => F'
            rename News _ _ _ _ => N'
            refine append_K F' N' (.tail (by k_ne) (.tail (by k_ne) (.tail (by k_ne) (.head q1)))) ?_ (by rw [List.size_toArray, sizeLine_eq]; omega)
            intro h' F' N'
            repeat' walk_at "s1"
            dsimp only
            rename Fr _ _ _ _ => F'
            rename News _ _ _ _ => N'
            obtain ⟨nw, N'', z1, z2, z3⟩ := cuts_turn2 N' q1 q2 q3 l1 hIc hI2c hI2I (fun p hp => hnI p (.tail _ hp)) (fun p hp => hnI2 p (.tail _ (.tail _ hp))) (slice_okl hx _ _) okl_nil (by
              have e0 : (Str.ofString "").length = 0 := by decide +kernel
              have := Txt.slice_le x (some (0 + (i : Int))) (some (0 + (i : Int) + 1 + (j : Int)))
              omega)
            exact ⟨_, _, _, _, rfl, F', N'', z1, rfl, ⟨_, rfl⟩, rfl, nw, rfl, z2, z3⟩
          · rintro m₂ news₂ h tk ⟨hcl, htx, hii, nw, rfl, hnI', hc⟩ F₁ N₁
            refine ⟨rfl, m₂, nw, h, tk, rfl, F₁, N₁, hnI', hcl, htx, cuts_mono hc ?_⟩
            omega
        · rintro _ _ ⟨rfl, m₂, news₂, h₂, tk₂, rfl, F₂, N₂, hn₂, hcl₂, htx₂, hc₂⟩
          dsimp only
          repeat' walk_at "s1"
          dsimp only
          exact ⟨_, _, _, _, rfl, F₂, N₂, hn₂, cl, hcl₂, htx₂, hc₂⟩
      · rintro m₁ news₁ h tk ⟨cl, hcl, htx, hc⟩ F₁ N₁
        exact ⟨rfl, cl, m₁, news₁, h, tk, rfl, F₁, N₁, hcl, htx, cuts_mono hc (by omega)⟩
    rintro _ _ ⟨rfl, cl, m, news, h', tk', rfl, F', N', hcl, ⟨t, htx⟩, its, ep, tup, rfl, q1, q2, q3⟩
    replace F' := fr_ats _ F' (atsC hcl (ats1 htx))
    simp only [over] at F'
    dsimp only
    repeat' walk_at "s1"
    refine wpAny_mono (Q := fun f s' => f = .next ∧ ∃ m news h' tk', s' = { s with heap := h', toks := tk' } ∧ Fr s.heap L' h' m ∧ News s.heap L' h' news ∧ m (Str.ofString "cuts") = some (.ref cl) ∧ CutsAt 300 cl news) ?_ ?_ (fun _ _ h => h)
    · refine wpAny_For ?_
      repeat' walk_at "s1"
      rename IsRange _ _ _ _ _ _ _ _ => hr
      rename Fr _ _ _ _ => F'
      rename News _ _ _ _ => N'
      refine for_range (by exact hh) hr (by omega) (by omega) (by omega) (fun i m news => m (Str.ofString "cuts") = some (.ref cl) ∧ (∃ t, m (Str.ofString "text") = some (.str x t)) ∧ CutsAt (200 + i) cl news) F' N' ⟨rfl, ⟨_, rfl⟩, its, ep, tup, rfl, q1, q2, q3⟩ ?_ ?_
      · clear F' N' q1 q2 q3 hr
        rintro i u m₁ news₁ I oI h tk hlt ⟨hcl, ⟨t, htx⟩, its, ep, tup, rfl, q1, q2, q3⟩ hI hnI F₁ N₁
        replace F₁ := fr_ats _ F₁ (atsC hcl (ats1 htx))
        simp only [over] at F₁
        have hIc : I ≠ cl := fun e => hnI _ (.head _) e.symm
        repeat' walk_at "s1"
        rename _ ∧ _ ∧ _ => l1
        rename Fr _ _ _ _ => F'
        rename News _ _ _ _ => N'
        refine append_K F' N' (.tail (by k_ne) (.tail (by k_ne) (.head q1))) ?_ (by rw [List.size_toArray, sizeLine_eq]; omega)
        intro h' F' N'
        repeat' walk_at "s1"
        dsimp only
        rename Fr _ _ _ _ => F'
        rename News _ _ _ _ => N'
        obtain ⟨nw, N'', z1, z3⟩ := cuts_turn1 N' q1 q2 q3 l1 hIc (fun p hp => hnI p (.tail _ hp)) (slice_okl hx _ _) (slice_okl hx _ _) (by
          have hi' : i ≤ x.length := by omega
          have e : (0 : Int) + (i : Int) = ((i : Nat) : Int) := by omega
          rw [e, len_sl, len_sl, sl_slice_to x hi', sl_slice_from x hi', List.length_take, List.length_drop]
          have := len_sl x
          omega)
        exact ⟨_, _, _, _, rfl, F', N'', z1, rfl, ⟨_, rfl⟩, z3⟩
      · rintro m₂ news₂ h tk ⟨hcl, htx, hc⟩ F₁ N₁
        exact ⟨rfl, m₂, news₂, h, tk, rfl, F₁, N₁, hcl, cuts_mono hc (by omega)⟩
    rintro _ _ ⟨rfl, m₂, news₂, h₂, tk₂, rfl, F₂, N₂, hcl₂, its₂, ep₂, tup₂, rfl, r1, r2, r3⟩
    replace F₂ := fr_ats _ F₂ (ats1 hcl₂)
    simp only [over] at F₂
    dsimp only
    repeat' walk_at "s1"
    dsimp only
    refine hret cl its₂ ep₂ h₂ _ F₂.keep (N₂ _ (.head _)).2.2 (N₂ _ (.head _)).1 (by omega) ?_
    intro v hv
    obtain ⟨a', hd', th', tl', tt', e, hm, z1, z2, z3⟩ := r3 v hv
    have z := N₂ _ (.tail _ hm)
    exact ⟨a', hd', th', tl', tt', e, z.2.2, z.1, z1, z2, z3⟩
end Mine

end
/- part B1 -/
noncomputable section
open PySem PySem.W PyProof.Rows
namespace Mine
open PySem.Calls
open Sem (wp)

/-! a stack on which a builtin map.__next__ stands above every frame -/
def hidden (l : List Code) : Prop := ∃ pre a post, l = pre ++ .builtin "map.__next__" a :: post ∧ ∀ y ∈ pre, y.env? = none
theorem hidden_cons {l : List Code} {c : Code} (hc : c.env? = none) (h : hidden l) : hidden (c :: l) := by
  obtain ⟨pre, a, post, rfl, hp⟩ := h
  refine ⟨c :: pre, a, post, rfl, fun y hy => ?_⟩
  rcases List.mem_cons.mp hy with rfl | hy
  · exact hc
  · exact hp y hy
theorem takeWhile_pre {p : Code → Bool} {c : Code} {post : List Code} : ∀ {pre : List Code}, (∀ y ∈ pre, p y = true) → p c = true → c ∈ (pre ++ c :: post).takeWhile p
  | [], _, hc => by rw [List.nil_append, List.takeWhile_cons, if_pos hc]; exact .head _
  | y :: pre, h, hc => by
    rw [List.cons_append, List.takeWhile_cons, if_pos (h y (.head _))]
    exact .tail _ (takeWhile_pre (fun z hz => h z (.tail _ hz)) hc)
theorem hidden_no {l : List Code} (h : hidden l) : pythonCodeMadeTheCall ["int.__new__"] l = false := by
  obtain ⟨pre, a, post, rfl, hp⟩ := h
  unfold pythonCodeMadeTheCall
  rw [Bool.and_eq_false_iff]
  right
  have hm : Code.builtin "map.__next__" a ∈ (pre ++ Code.builtin "map.__next__" a :: post).takeWhile (·.env?.isNone) :=
    takeWhile_pre (fun y hy => by rw [hp y hy]; rfl) rfl
  rw [List.all_eq_false]
  refine ⟨_, hm, ?_⟩
  have e1 : (["int.__new__"] : List String).contains "map.__next__" = false := by decide
  have e2 : (("map.__next__" : String) == "type.__call__") = false := by decide
  simp [e2]

def HS (Γ : Ctx) : Prop := hidden (Γ.code :: Γ.below.map (·.1))
def wpH {α : Type} (M : Model) (A : Around) (t : Sem α) (Q : α → Shared → Prop) (E : Value → Shared → Prop) (s : Shared) : Prop :=
  ∀ Γ p, Γ.In A → HS Γ → wp M Γ t (fun a _ s' => Q a s') (fun e _ s' => E e s') p s
def codeH (M : Model) (A : Around) (c : Code) (R : Result → Shared → Prop) (s : Shared) : Prop :=
  ∀ Γ p, Γ.code = c → Γ.Below A → hidden (Γ.below.map (·.1)) → wpCode M Γ R p s

section
variable {α β : Type} {M : Model} {A : Around} {E : Value → Shared → Prop} {s : Shared}
theorem wpH_of {t : Sem α} {Q : α → Shared → Prop} (h : wpAny M A t Q E s) : wpH M A t Q E s := fun Γ p hΓ _ => h Γ p hΓ
theorem wpH_bind {m : Sem α} {f : α → Sem β} {Q : β → Shared → Prop} (h : wpH M A m (fun a s' => wpH M A (f a) Q E s') E s) : wpH M A (m >>= f) Q E s := fun Γ p hΓ hs => by
  rw [Sem.wp_bind']
  exact Sem.wp_mono M Γ m (fun a p' s' h' => h' Γ p' hΓ hs) (fun _ _ _ h' => h') p s (h Γ p hΓ hs)
theorem wpH_holding {vs : List Value} {m : Sem α} {Q : α → Shared → Prop} (h : wpH M A m Q E s) : wpH M A (holding vs m) Q E s :=
  fun Γ p hΓ hs => by rw [Sem.wp_holding]; exact h Γ p hΓ hs
theorem wpH_mono {t : Sem α} {Q Q' : α → Shared → Prop} {E' : Value → Shared → Prop} (h : wpH M A t Q E s) (hQ : ∀ a s, Q a s → Q' a s) (hE : ∀ e s, E e s → E' e s) : wpH M A t Q' E' s :=
  fun Γ p hΓ hs => Sem.wp_mono M Γ t (fun a _ s => hQ a s) (fun e _ s => hE e s) p s (h Γ p hΓ hs)
theorem wpH_call {f : Value} {pos : List Value} {kw : List (Str × Value)} {Q : Value → Shared → Prop}
    (hc : codeH M A (.call f ⟨pos, kw⟩) (fun r s' => match r with | .ok (.ret v) => Q v s' | .ok _ => False | .error e => E e s') s) :
    wpH M A (call f pos kw) Q E s := fun Γ p hΓ hs => by
  show wp M Γ (runValue _) _ _ p s
  rw [Sem.wp_runValue]
  exact hc _ p rfl (hΓ.enter _ none p (by intro x; cases x)) hs
theorem codeH_of_tree {c : Code} {R : Result → Shared → Prop} (he : c.env? = none)
    (h : wpH M (A.under c) (M.den c) (fun fin s' => match fin with | .done f => R (.ok f) s' | .again c' => c'.quiet = true ∧ codeH M A c' R s')
      (fun e s' => R (.error e) s') s) : codeH M A c R s := fun Γ p hc hΓ hb => by
  rw [wpCode_iff_wp, hc]
  refine Sem.wp_mono M Γ _ (fun fin p' s' h' => ?_) (fun _ _ _ h' => h') p s (h Γ p (hc ▸ hΓ.in) (hidden_cons (by rw [hc]; exact he) hb))
  cases fin with
  | done f => exact h'
  | again c' => exact ⟨h'.1, h'.2 (Γ.goto c') p' rfl (hΓ.goto c') hb⟩
theorem codeH_builtin {prog : Program} {w : World} {id : String} {args : Args} {b : Builtin} {R : Result → Shared → Prop} (hb : entryFor table id = some b)
    (h : wpH (model prog w) (A.under (.builtin id args)) (b args)
      (fun fin s' => match fin with | .done f => R (.ok f) s' | .again c' => c'.quiet = true ∧ codeH (model prog w) A c' R s') (fun e s' => R (.error e) s') s) :
    codeH (model prog w) A (.builtin id args) R s := by
  refine codeH_of_tree rfl ?_
  show wpH _ _ (match entryFor table id with | some b => b args | none => unsupported ((withoutEnding? id "#data").getD id)) _ _ s
  rw [hb]; exact h
theorem codeH_type {prog : Program} {w : World} {T : String} {args : Args} {R : Result → Shared → Prop}
    (h : codeH (model prog w) A (.builtin "type.__call__" ⟨.type T :: args.pos, args.kw⟩) R s) : codeH (model prog w) A (.call (.type T) args) R s := by
  refine codeH_of_tree rfl ?_
  show wpH _ _ (callAny (.type T) _) _ _ _
  exact wpH_of (wpAny_pure ⟨Code.quiet_builtin _ (by decide +kernel), h⟩)
theorem codeH_call_builtin {prog : Program} {w : World} {id : String} {args : Args} {b : Builtin} {R : Result → Shared → Prop} (hq : plainId id = true) (hb : entryFor table id = some b) (hcn : checkBuiltinCall id args = pure ())
    (h : wpH (model prog w) (A.under (.builtin id args)) (b args)
      (fun fin s' => match fin with | .done f => R (.ok f) s' | .again c' => c'.quiet = true ∧ codeH (model prog w) A c' R s') (fun e s' => R (.error e) s') s) :
    codeH (model prog w) A (.call (.builtin id) args) R s := by
  refine codeH_of_tree rfl ?_
  show wpH _ _ (checkBuiltinCall id args >>= fun _ => again (.builtin id args)) _ _ _
  rw [hcn]
  refine wpH_bind (wpH_of (wpAny_pure ?_))
  exact wpH_of (wpAny_pure ⟨plainId_quiet hq args, codeH_builtin hb h⟩)
theorem wpH_mark {e : Value} {Q : Unit → Shared → Prop} (h : Q () s) : wpH M A (markTheRefusal ["int.__new__"] e) Q E s := fun Γ p _ hs => by
  unfold markTheRefusal
  rw [Sem.wp_bind']
  rw [show (stack : Sem (List (Code × Pos))) = Sem.stack Sem.pure from rfl, Sem.wp_stack, Sem.wp_pure]
  have e : pythonCodeMadeTheCall ["int.__new__"] (((Γ.code, p) :: Γ.below).map (·.1)) = false := hidden_no hs
  dsimp only
  rw [e]
  rw [if_neg Bool.false_ne_true]
  exact h
/-- a body of map.__next__ is hidden -/
theorem own_of_wpH {a : Args} {t : Sem α} {Q : α → Shared → Prop} (h : wpH M (A.under (.builtin "map.__next__" a)) t Q E s) : wpOwn M A (.builtin "map.__next__" a) t Q E s :=
  fun Γ p hc hΓ => h Γ p (hc ▸ hΓ.in) ⟨[], a, Γ.below.map (·.1), by rw [hc]; rfl, fun _ h => nomatch h⟩
end
end Mine

end
/- part B2 -/
noncomputable section
open PySem PySem.W PyProof.Rows
namespace Mine
open PySem.Calls
open Sem (wp)
set_option maxRecDepth 100000

theorem fromText_tree {x : Str} {t : Tok} {text : List Nat}
    (hs : (text.takeWhile (· != 0)).length ≤ 640) (hr : (int_private% "readNumeral") 0 10 (text.takeWhile (· != 0)) = int_private% "Numeral.invalid") :
    (int_private% "intFromText") (.str x t) text 10 = (do
       rule "int.__new__.invalid-literal"
       let shown ← pyRepr (.str x t)
       let m ← mkStr (Str.ofString "invalid literal for int() with base 10: " ++ ⟨shown.cps.extract 0 200⟩)
       let refusal ← newExc (.type "ValueError") [m]
       markTheRefusal ["int.__new__"] refusal
       raiseNew refusal) := by
  refine (if_pos hs : ite _ _ _ = _).trans ?_
  simp only [pure_bind, hr]
  rfl
theorem special_none {x : Str} {t : Tok} {n : Str} (h : typeLookup (.type "str") n = pure none) : specialOf (.str x t) n = pure none := by
  unfold specialOf
  have f6 : typeOf (.str x t) = pure (.type "str") := rfl
  rw [f6]
  simp only [pure_bind, h]
theorem fromObject_tree {x : Str} {t : Tok} : (int_private% "intFromObject") (.str x t) = (int_private% "intFromText") (.str x t) (numTextOf x) 10 := by
  have h1 := special_none (x := x) (t := t) KIN.str_int
  have h2 := special_none (x := x) (t := t) KIN.str_idx
  have h3 := special_none (x := x) (t := t) KIN.str_trunc
  have c1 : callSpecial? (.str x t) "__int__" = pure none := by
    unfold callSpecial?
    rw [h1]
    rfl
  show (callSpecial? (.str x t) "__int__" >>= _) = _
  rw [c1, pure_bind]
  show (specialOf (.str x t) "__index__" >>= _) = _
  rw [h2, pure_bind]
  show (specialOf (.str x t) "__trunc__" >>= _) = _
  rw [h3, pure_bind]
  rfl
theorem new_tree {v : Value} : Builtin.«int.__new__» ⟨[.type "int", v], []⟩ = ((int_private% "intFromObject") v >>= fun r => ret r) := by
  have f1 := F.conv_sub_int
  have f2 := F.madeHere_int
  unfold Builtin.«int.__new__»
  simp only [f1, f2, pure_bind]
  rfl

theorem type_tree (v : Value) : ∃ k, Builtin.«type.__call__» ⟨[.type "int", v], []⟩ = (call (.builtin "int.__new__") [.type "int", v] >>= k) := by
  have ft := F.called_int
  obtain ⟨c, tl, hmro⟩ := ft.mro
  have h1 := ft.notType
  have h2 := ft.canCreate
  have h3 := ft.made
  have h4 := F.typeCall_int_1 v
  exact ⟨_, by
    unfold Builtin.«type.__call__»
    dsimp only
    rw [if_neg (by rw [h1]; exact Bool.false_ne_true), if_neg (by rw [h2]; exact Bool.false_ne_true)]
    rw [h4, pure_bind, hmro, pure_bind, if_neg (by exact Bool.false_ne_true), h3, pure_bind]
    rfl⟩

section
variable {prog : Program} {w : World} {A : Around} {E : Value → Shared → Prop} {s : Shared}

theorem fromText_fail {x : Str} {t : Tok} {text : List Nat} {Q : Value → Shared → Prop} (hh : A.handled = none)
    (hs : (text.takeWhile (· != 0)).length ≤ 640) (hr : (int_private% "readNumeral") 0 10 (text.takeWhile (· != 0)) = int_private% "Numeral.invalid") (hx : (reprText x).length ≤ 100000)
    (hE : ∀ h' tk e, Heap.NewExc s.heap h' e "ValueError" → E (.ref e) { s with heap := h', toks := tk }) :
    wpH (model prog w) A ((int_private% "intFromText") (.str x t) text 10) Q E s := by
  rw [fromText_tree hs hr]
  refine wpH_bind (wpH_of (wpAny_rule ?_))
  refine wpH_bind (wpH_of (wpAny_pyRepr_str ?_ (by rw [sizeLine_eq]; omega)))
  refine wpH_bind (wpH_of (wpAny_mkStr ?_ ?_))
  · unfold newExc newTuple
    refine wpH_bind (wpH_of ?_)
    refine wpAny_bind (wpAny_newObj_type ?_ (by size_fits))
    refine wpAny_bind (m := firstArgMember _ _) (wpAny_of_eq (a := Value.none) (by simp only [firstArgMember, plainExc_ValueError.first]; rfl) ?_)
    rw [plainExc_ValueError.own]
    refine wpAny_newObj_type ?_ (by size_fits)
    refine wpH_bind (wpH_mark ?_)
    refine wpH_of ?_
    unfold raiseNew
    refine wpAny_bind (wpAny_handled ?_)
    rw [hh]
    refine wpAny_throw ?_
    exact hE _ _ _ ⟨fun b o hb => Heap.get?_push_of_some _ (Heap.get?_push_of_some _ hb), Heap.get?_none_of_le (by simp), _, .ref s.heap.objs.size, Heap.get?_push_size _ rfl, rfl, by simp⟩
  · rw [Str.length_append, sizeLine_eq]
    have e : (Str.ofString "invalid literal for int() with base 10: ").length = 40 := by decide +kernel
    have e2 : (⟨(reprText x).cps.extract 0 200⟩ : Str).length ≤ (reprText x).length := by
      show ((reprText x).cps.extract 0 200).size ≤ (reprText x).cps.size
      rw [Array.size_extract]; omega
    omega

theorem int_fail {x : Str} {t : Tok} {Q : Value → Shared → Prop} (hh : A.handled = none) (hl : x.length ≤ 600) (hx : okl (sl x)) (hn : lawNum (sl x) = none)
    (hE : ∀ h' tk e, Heap.NewExc s.heap h' e "ValueError" → E (.ref e) { s with heap := h', toks := tk }) :
    wpH (model prog w) A (call (.type "int") [.str x t]) Q E s := by
  have hseen : numSeenOf x = sl x := numSeen_ok hx
  have hs : (numSeenOf x).length ≤ 640 := by
    rw [hseen]
    exact Nat.le_trans (Nat.le_of_eq (len_sl x).symm) (Nat.le_trans hl (by decide))
  have hr : (int_private% "readNumeral") 0 10 (numSeenOf x) = int_private% "Numeral.invalid" := by
    rcases read0 x hs with ⟨m, h1, _, _⟩ | ⟨_, h2 | ⟨i, _, h3⟩⟩
    · rw [intText_ok hx hl, hn] at h1; cases h1
    · exact h2
    · exfalso
      apply h3
      rw [numText_ok hx, numSeen_ok hx]
      simp
  have hrep : (reprText x).length ≤ 100000 := by
    have := StrLaws.reprText_len x fun c hc => Nat.lt_of_lt_of_le (okc_lt (hx c hc)).1 (by decide)
    omega
  refine wpH_call (codeH_type (codeH_builtin F.entry_type_call ?_))
  obtain ⟨k, ek⟩ := type_tree (.str x t)
  rw [ek]
  refine wpH_bind (wpH_call (codeH_call_builtin F.called_int.plain F.entry_int_new (F.newCall_int_1 _) ?_))
  rw [new_tree, fromObject_tree]
  exact wpH_bind (fromText_fail hh hs hr hrep hE)
end
end Mine

end
/- part B3 -/
noncomputable section
open PySem PySem.W PyProof.Rows
namespace Mine
open PySem.Calls
open Sem (wp)
set_option maxRecDepth 100000

/-! facts about the class map -/
theorem slot_map_next : Slot "map" "__next__" "map.__next__" :=
  .of (owner := "map") (n := "__next__") (by rw [typeLookup_type, builtinLookup_eq_fast]; kernel_rfl) (by decide +kernel) (by decide +kernel) (by decide +kernel)
    (by first | exact .inl (by decide +kernel) | exact .inr (by decide +kernel)) (by rw [isSubtype_type]; kernel_rfl)
theorem slot_map_iter : Slot "map" "__iter__" "map.__iter__" :=
  .of (owner := "map") (n := "__iter__") (by rw [typeLookup_type, builtinLookup_eq_fast]; kernel_rfl) (by decide +kernel) (by decide +kernel) (by decide +kernel)
    (by first | exact .inl (by decide +kernel) | exact .inr (by decide +kernel)) (by rw [isSubtype_type]; kernel_rfl)
theorem slot_map_init : Slot "map" "__init__" "object.__init__" :=
  .of (owner := "object") (n := "__init__") (by rw [typeLookup_type, builtinLookup_eq_fast]; kernel_rfl) (by decide +kernel) (by decide +kernel) (by decide +kernel)
    (by first | exact .inl (by decide +kernel) | exact .inr (by decide +kernel)) (by rw [isSubtype_type]; kernel_rfl)
theorem entry_map_next : entryFor table "map.__next__" = some Builtin.«map.__next__» := entryFor_of_tree (by kernel_rfl)
theorem entry_map_new : entryFor table "map.__new__" = some Builtin.«map.__new__» := entryFor_of_tree (by kernel_rfl)
theorem entry_map_iter : entryFor table "map.__iter__" = some Builtin.«dict_keyiterator.__iter__» :=
  entryFor_alias (id' := "dict_keyiterator.__iter__") (by kernel_rfl) (by first | rfl | decide +kernel | (unfold String.splitOn; simp +decide [String.splitOnAux])) (by decide +kernel) (by kernel_rfl)
theorem owner_map : Manifest.owners.lookup (String.ofList ['p', 'a', 'm'].reverse) = some Manifest.sig_map := by kernel_rfl
theorem args_map_next_1 (a : Value) : argsOk "map.__next__" ⟨[a], []⟩ := by
  unfold argsOk; rw [signature?_of (id := "map.__next__") (n := ['_', '_', 't', 'x', 'e', 'n', '_', '_']) (o := ['p', 'a', 'm']) (by kernel_rfl) owner_map]; kernel_rfl
theorem args_map_iter_1 (a : Value) : argsOk "map.__iter__" ⟨[a], []⟩ := by
  unfold argsOk; rw [signature?_of (id := "map.__iter__") (n := ['_', '_', 'r', 'e', 't', 'i', '_', '_']) (o := ['p', 'a', 'm']) (by kernel_rfl) owner_map]; kernel_rfl
theorem mro_map : mroOf (.type "map") = pure [.type "map", .type "object"] := by rw [mroOf_type]; kernel_rfl
theorem lookup_map_new : typeLookup (.type "map") "__new__" = pure (some (.builtin "map.__new__")) := by rw [typeLookup_type, builtinLookup_eq_fast]; kernel_rfl
theorem called_map : TypeCalled "map" "map.__new__" "object.__init__" :=
  ⟨by decide +kernel, by decide +kernel, ⟨_, _, mro_map⟩, madeBy_type mro_map lookup_map_new (by decide +kernel), by decide +kernel, by rw [isSubtype_type]; kernel_rfl, slot_map_init⟩
theorem typeCall_map_2 (a b : Value) : checkTypeCall "map" ⟨[a, b], []⟩ = pure () := by kernel_rfl
theorem newCall_map_2 (a b : Value) : checkBuiltinCall "map.__new__" ⟨[.type "map", a, b], []⟩ = pure () := by kernel_rfl
end Mine

end
/- part B4 -/
noncomputable section
open PySem PySem.W PyProof.Rows
namespace Mine
open PySem.Calls
open Sem (wp)
set_option maxRecDepth 100000

abbrev mapObj (tup : Addr) (f : Value) : Obj := { cls := .type "map", data := .fields #[.ref tup, f] }
abbrev tup1 (v : Value) : Obj := { cls := .type "tuple", data := .seq #[v] }

section
variable {prog : Program} {w : World} {A : Around} {E : Value → Shared → Prop} {s : Shared}

theorem map_body {mp tup : Addr} {f itv : Value} {Q : Fin → Shared → Prop} (hm : s.heap.get? mp = some (mapObj tup f)) (ht : s.heap.get? tup = some (tup1 itv))
    (h : wpAny (model prog w) A (Builtin.SmallTypes.nextOf itv) (fun v s₁ => s₁.heap.get? mp = some (mapObj tup f) ∧ wpH (model prog w) A (call f [v]) (fun r s₂ => Q (.done (.ret r)) s₂) E s₁) E s) :
    wpH (model prog w) A (Builtin.«map.__next__» ⟨[.ref mp], []⟩) Q E s := by
  unfold Builtin.«map.__next__»
  refine wpH_bind (wpH_of (wpAny_pure ?_))
  refine wpH_bind (wpH_of (wpAny_field hm rfl (x := .ref tup) rfl ?_))
  refine wpH_bind (wpH_of (wpAny_seqItems ht rfl ?_))
  dsimp only
  refine wpH_bind (wpH_of (PySem.MeetsSeq2.wpAny_forIn_array _ (fun rest b s' => (rest = [itv] ∧ b = #[] ∧ s' = s) ∨ (rest = [] ∧ ∃ v, b = #[v] ∧ s'.heap.get? mp = some (mapObj tup f) ∧ wpH (model prog w) A (call f [v]) (fun r s₂ => Q (.done (.ret r)) s₂) E s')) _ ?_ ?_ _ _ (.inl ⟨rfl, rfl, rfl⟩)))
  · rintro x rest b s' (⟨e, rfl, rfl⟩ | ⟨e, _⟩)
    · cases e
      refine wpAny_bind (wpAny_holding (wpAny_mono h (fun v s₁ h₁ => wpAny_pure ?_) (fun _ _ h => h)))
      exact .inr ⟨rfl, v, rfl, h₁⟩
    · cases e
  · rintro b s' (⟨e, _⟩ | ⟨_, v, rfl, hm', h'⟩)
    · cases e
    · refine wpH_bind (wpH_of (wpAny_field hm' rfl (x := f) rfl ?_))
      refine wpH_bind (wpH_holding (wpH_mono h' (fun r s₂ h₂ => ?_) (fun _ _ h => h)))
      refine wpH_of (wpAny_bind (wpAny_letGo (wpAny_pure h₂)))

theorem map_call {mp tup : Addr} {f itv : Value} {Q : Value → Shared → Prop} (hm : s.heap.get? mp = some (mapObj tup f)) (ht : s.heap.get? tup = some (tup1 itv))
    (h : wpAny (model prog w) A.in1 (Builtin.SmallTypes.nextOf itv) (fun v s₁ => s₁.heap.get? mp = some (mapObj tup f) ∧ wpH (model prog w) A.in1 (call f [v]) Q E s₁) E s) :
    wpAny (model prog w) A (call (.builtin "map.__next__") [.ref mp]) Q E s := by
  have hT : s.TypeIs (.ref mp) "map" := ⟨_, hm, rfl⟩
  refine wpAny_call (codeAny_call_builtin_own (plainId_quiet slot_map_next.plain _) entry_map_next (slot_map_next.check _ _ _ _ _ _ _ _ hT (args_map_next_1 _) ?_))
  refine own_of_wpH ?_
  rw [Around.under_plainId slot_map_next.plain]
  exact map_body hm ht h
theorem map_nextOf {mp tup : Addr} {f itv : Value} {Q : Value → Shared → Prop} (hm : s.heap.get? mp = some (mapObj tup f)) (ht : s.heap.get? tup = some (tup1 itv))
    (h : wpAny (model prog w) A.in1 (Builtin.SmallTypes.nextOf itv) (fun v s₁ => s₁.heap.get? mp = some (mapObj tup f) ∧ wpH (model prog w) A.in1 (call f [v]) Q E s₁) E s) :
    wpAny (model prog w) A (Builtin.SmallTypes.nextOf (.ref mp)) Q E s := by
  have hT : s.TypeIs (.ref mp) "map" := ⟨_, hm, rfl⟩
  unfold Builtin.SmallTypes.nextOf
  refine wpAny_bind (wpAny_callSpecial?_slot (name := Str.ofString "__next__") hT slot_map_next (map_call hm ht (wpAny_mono h (fun v s₁ h₁ => ⟨h₁.1, wpH_mono h₁.2 (fun r s₂ q => wpAny_pure q) (fun _ _ e => e)⟩) (fun _ _ e => e))))
theorem map_pyIter {mp tup : Addr} {f : Value} {Q : Value → Shared → Prop} (hm : s.heap.get? mp = some (mapObj tup f)) (h : Q (.ref mp) s) : wpAny (model prog w) A (pyIter (.ref mp)) Q E s := by
  have hT : s.TypeIs (.ref mp) "map" := ⟨_, hm, rfl⟩
  refine wpAny_pyIter_slot hT slot_map_iter (wpAny_call_entry slot_map_iter hT entry_map_iter ?_ (args_map_iter_1 _))
  show wpAny _ _ (ret (.ref mp)) _ _ s
  exact wpAny_pure ⟨_, rfl, "map", _, hT, slot_map_next.lookup, h⟩
end

theorem sub_map : isSubtype (.type "map") (.type "map") = pure true := by rw [isSubtype_type]; kernel_rfl
theorem map_new_tree {f y : Value} : Builtin.«map.__new__» ⟨[.type "map", f, y], []⟩ = (Builtin.SmallTypes.iterAll [y] >>= fun its => newTuple its >>= fun t => Builtin.SmallTypes.newRecord (.type "map") [t, f] >>= fun r => ret r) := by
  have h1 := sub_map
  unfold Builtin.«map.__new__» Builtin.SmallTypes.newClass Builtin.SmallTypes.refuseKeywords
  simp only [h1, pure_bind]
  rfl

section
variable {prog : Program} {w : World} {A : Around} {E : Value → Shared → Prop} {s : Shared}
theorem call_map {f y : Value} {Q : Value → Shared → Prop}
    (h : wpAny (model prog w) A.in1.in1 (pyIter y) (fun it s₁ => Q (.ref (s₁.heap.objs.size + 1)) { s₁ with heap := (s₁.heap.push (tup1 it)).push (mapObj s₁.heap.objs.size f) }) E s) :
    wpAny (model prog w) A (call (.type "map") [f, y]) Q E s := by
  refine callType_newIn called_map (by decide) (typeCall_map_2 f y) (newCall_map_2 f y) (fun obj => F.args_object_init_3 obj f y) entry_map_new
    (S := fun A R s => wpAny (model prog w) A.in1 (pyIter y) (fun it s₁ => R (.ok (.ret (.ref (s₁.heap.objs.size + 1)))) { s₁ with heap := (s₁.heap.push (tup1 it)).push (mapObj s₁.heap.objs.size f) }) (fun e s₁ => R (.error e) s₁) s) ?_ ?_
  · intro A R s hs
    rw [map_new_tree]
    refine wpAny_bind ?_
    unfold Builtin.SmallTypes.iterAll
    refine wpAny_bind ?_
    refine wpAny_forIn_list _ (fun rest (b : Array Value) s' => (rest = [y] ∧ b = #[] ∧ s' = s) ∨ (rest = [] ∧ ∃ it, b = #[it] ∧ R (.ok (.ret (.ref (s'.heap.objs.size + 1)))) { s' with heap := (s'.heap.push (tup1 it)).push (mapObj s'.heap.objs.size f) })) _ ?_ ?_ _ _ (.inl ⟨rfl, rfl, rfl⟩)
    · rintro x rest b s' (⟨e, rfl, rfl⟩ | ⟨e, _⟩)
      · cases e
        refine wpAny_bind (wpAny_holding (wpAny_mono hs (fun v s₁ h₁ => wpAny_pure ?_) (fun _ _ h => h)))
        exact .inr ⟨rfl, v, rfl, h₁⟩
      · cases e
    · rintro b s' (⟨e, _⟩ | ⟨_, it, rfl, h'⟩)
      · cases e
      · refine wpAny_pure (wpAny_bind ?_)
        unfold newTuple
        refine wpAny_newObj_type (wpAny_bind ?_) (by size_fits)
        unfold Builtin.SmallTypes.newRecord
        refine wpAny_newObj_type (wpAny_pure ?_) (by size_fits)
        have e : (s'.heap.push (tup1 it)).objs.size = s'.heap.objs.size + 1 := Heap.size_push ..
        show R (.ok (.ret (.ref (s'.heap.push (tup1 it)).objs.size))) _
        rw [e]
        exact h'
  · refine wpAny_mono h (fun it s₁ h₁ => ⟨?_, h₁⟩) (fun _ _ h => h)
    refine ⟨mapObj s₁.heap.objs.size f, ?_, rfl⟩
    have e : (s₁.heap.push (tup1 it)).objs.size = s₁.heap.objs.size + 1 := Heap.size_push ..
    rw [← e]
    exact Heap.get?_push_size _ rfl
end
end Mine

end
/- part P5 -/
noncomputable section
open PySem
namespace Mine
theorem place_two {l : List Nat} {m n : Int} (h : (dots l).map lawNum = [some m, some n]) : placeOf l = some (m, n) := by
  unfold placeOf
  cases hd : dots l with
  | nil => rw [hd] at h; cases h
  | cons a r =>
    rw [hd] at h
    cases r with
    | nil => exact absurd (congrArg List.length h) (by simp)
    | cons b r' =>
      cases r' with
      | nil =>
        injection h with h1 h2
        injection h2 with h2 _
        simp only [h1, h2]
      | cons _ _ =>
        injection h with _ h2
        injection h2 with _ h3
        cases h3
theorem place_no {l : List Nat} (h : ∀ m n, (dots l).map lawNum ≠ [some m, some n]) : placeOf l = none := by
  unfold placeOf
  split
  · rename_i a b hd
    split
    · rename_i m n h1 h2
      refine absurd ?_ (h m n)
      rw [hd]
      simp only [List.map, h1, h2]
    · rfl
  · rfl
theorem txt_len {n : Int} (h : n.natAbs < 10 ^ 9) : (txt n).length ≤ 10 := by
  cases n with
  | ofNat m =>
    show (txt (m : Int)).length ≤ 10
    rw [txt_nat, List.length_map]
    have : (Nat.toDigits 10 m).length ≤ 9 := (Nat.length_toDigits_le_iff (by decide) (by decide)).mpr h
    omega
  | negSucc m =>
    rw [txt_neg, List.length_cons, List.length_map]
    have : (Nat.toDigits 10 (m + 1)).length ≤ 9 := (Nat.length_toDigits_le_iff (by decide) (by decide)).mpr h
    omega
theorem allNums_of : ∀ {ps : List (List Nat)} {ns : List Int}, ps.map lawNum = ns.map some → allNums ps = some ns
  | [], [], _ => rfl
  | [], _ :: _, h => absurd (congrArg List.length h) (by simp)
  | _ :: _, [], h => absurd (congrArg List.length h) (by simp)
  | p :: r, n :: ns, h => by
    rw [List.map_cons, List.map_cons] at h
    injection h with h1 h2
    unfold allNums
    simp only [h1, allNums_of h2]
theorem allNums_no : ∀ {ps : List (List Nat)}, (∃ p ∈ ps, lawNum p = none) → allNums ps = none
  | [], ⟨_, h, _⟩ => nomatch h
  | q :: r, ⟨p, hp, hn⟩ => by
    unfold allNums
    rcases List.mem_cons.mp hp with rfl | hp
    · simp only [hn]
    · simp only [allNums_no ⟨p, hp, hn⟩]
      cases lawNum q <;> rfl
theorem allNums_some : ∀ {ps : List (List Nat)} {ns : List Int}, allNums ps = some ns → ps.map lawNum = ns.map some
  | [], ns, h => by cases h; rfl
  | p :: r, ns, h => by
    unfold allNums at h
    split at h
    · rename_i n ns' h1 h2
      cases h
      rw [List.map_cons, List.map_cons, h1, allNums_some h2]
    · cases h
theorem jn_len : ∀ (ps : List (List Nat)) {k : Nat}, (∀ p ∈ ps, p.length ≤ k) → (jn ps).length ≤ ps.length * (k + 1)
  | [], _, _ => Nat.zero_le _
  | [p], k, h => by
    have := h p (.head _)
    simp [jn]
    omega
  | p :: q :: r, k, h => by
    have h1 := h p (.head _)
    have h2 := jn_len (q :: r) (k := k) fun z hz => h z (.tail _ hz)
    have e : jn (p :: q :: r) = p ++ 46 :: jn (q :: r) := rfl
    rw [e, List.length_append, List.length_cons, List.length_cons (as := q :: r), Nat.add_mul]
    omega
theorem jn_okl : ∀ {ps : List (List Nat)}, (∀ p ∈ ps, okl p) → okl (jn ps)
  | [], _ => fun c hc => nomatch hc
  | [p], h => h p (.head _)
  | p :: q :: r, h => by
    have e : jn (p :: q :: r) = p ++ 46 :: jn (q :: r) := rfl
    rw [e]
    intro c hc
    rcases List.mem_append.mp hc with hc | hc
    · exact h p (.head _) c hc
    · rcases List.mem_cons.mp hc with rfl | hc
      · decide
      · exact jn_okl (fun z hz => h z (.tail _ hz)) c hc
theorem mem_take {α : Type} {l : List α} {n : Nat} {a : α} (h : a ∈ l.take n) : a ∈ l := (List.take_sublist n l).subset h
theorem told_ok {h t : List Nat} (hh : okl h) (ht : okl t) (hl : h.length + t.length ≤ 9) : okl (toldOf (piecesOf h t)) ∧ (toldOf (piecesOf h t)).length ≤ 100 := by
  unfold toldOf
  cases hn : allNums (piecesOf h t) with
  | some ns =>
    have hb := allNums_bound hn (fun p hp => Nat.le_trans (pieces_len hp) hl)
    refine ⟨jn_okl fun p hp => ?_, Nat.le_trans (jn_len _ (k := 10) fun p hp => ?_) ?_⟩
    · obtain ⟨n, _, rfl⟩ := List.mem_map.mp (mem_take hp)
      exact txt_okl n
    · obtain ⟨n, hn', rfl⟩ := List.mem_map.mp (mem_take hp)
      exact txt_len (hb n hn')
    · rw [List.length_take]; omega
  | none =>
    refine ⟨jn_okl fun p hp => pieces_okl hh ht p (mem_take hp), Nat.le_trans (jn_len _ (k := 9) fun p hp => Nat.le_trans (pieces_len (mem_take hp)) hl) ?_⟩
    rw [List.length_take]; omega
theorem join_ok {h t : List Nat} (hh : okl h) (ht : okl t) (hl : h.length + t.length ≤ 9) : okl (jn (piecesOf h t)) ∧ (jn (piecesOf h t)).length ≤ 200 := by
  refine ⟨jn_okl fun p hp => pieces_okl hh ht p hp, Nat.le_trans (jn_len _ (k := 9) fun p hp => Nat.le_trans (pieces_len hp) hl) ?_⟩
  have := pieces_weight h t
  omega
end Mine

end
/- part B5 -/
noncomputable section
open PySem PySem.W PyProof.Rows
namespace Mine
open PySem.Calls
open Sem (wp)
set_option maxRecDepth 100000

structure MI (h : Heap) (mp tup it l : Addr) (i : Nat) (items : Array Value) : Prop where
  m : h.get? mp = some (mapObj tup (.type "int"))
  t : h.get? tup = some (tup1 (.ref it))
  i : h.IsListIter it l i
  l : h.IsList l items
theorem ne_cls {h : Heap} {a b : Addr} {o o' : Obj} (ha : h.get? a = some o) (hb : h.get? b = some o') (hc : o.cls ≠ o'.cls) : a ≠ b := fun e => by
  subst e
  rw [ha] at hb
  cases hb
  exact hc rfl
theorem MI.mne {h : Heap} {mp tup it l : Addr} {i : Nat} {items : Array Value} (x : MI h mp tup it l i items) : mp ≠ it := by
  obtain ⟨o, ho, hc, _⟩ := x.i
  exact ne_cls x.m ho (by rw [hc]; intro e; injection e with e; exact absurd e (by decide))
theorem MI.tne {h : Heap} {mp tup it l : Addr} {i : Nat} {items : Array Value} (x : MI h mp tup it l i items) : tup ≠ it := by
  obtain ⟨o, ho, hc, _⟩ := x.i
  exact ne_cls x.t ho (by rw [hc]; intro e; injection e with e; exact absurd e (by decide))
theorem MI.lne {h : Heap} {mp tup it l : Addr} {i : Nat} {items : Array Value} (x : MI h mp tup it l i items) : l ≠ it := by
  obtain ⟨o, ho, hc, _⟩ := x.i
  obtain ⟨ol, hol, hcl, _⟩ := x.l
  exact ne_cls hol ho (by rw [hc, hcl]; intro e; injection e with e; exact absurd e (by decide))
theorem MI.ext {h h' : Heap} {mp tup it l : Addr} {i : Nat} {items : Array Value} (x : MI h mp tup it l i items) (e : ∀ b o, h.get? b = some o → h'.get? b = some o) : MI h' mp tup it l i items :=
  ⟨e _ _ x.m, e _ _ x.t, let ⟨o, ho, r⟩ := x.i; ⟨o, e _ _ ho, r⟩, let ⟨o, ho, r⟩ := x.l; ⟨o, e _ _ ho, r⟩⟩
theorem MI.step {h h' : Heap} {mp tup it l : Addr} {i j : Nat} {items : Array Value} (x : MI h mp tup it l i items) (e : Heap.ExtBut it h h') (hi : h'.IsListIter it l j) : MI h' mp tup it l j items :=
  ⟨e _ _ x.mne x.m, e _ _ x.tne x.t, hi, x.l.extBut e x.lne⟩
theorem sv_get (ps : List (Str × Tok)) (i : Nat) : (strValues ps).toArray[i]? = ps[i]?.map fun p => .str p.1 p.2 := by
  simp [strValues]
abbrev NN (p : Str × Tok) : Option Int := lawNum (sl p.1)

theorem no2_bad {ps : List (Str × Tok)} {i : Nat} {p : Str × Tok} (hp : ps[i]? = some p) (hn : NN p = none) (m n : Int) : ps.map NN ≠ [some m, some n] := fun e => by
  have h1 : (ps.map NN)[i]? = some none := by rw [List.getElem?_map, hp]; exact congrArg some hn
  rw [e] at h1
  match i, h1 with
  | 0, h1 => cases h1
  | 1, h1 => cases h1
  | _ + 2, h1 => cases h1
theorem no2_many {ps : List (Str × Tok)} {p : Str × Tok} (hp : ps[2]? = some p) (m n : Int) : ps.map NN ≠ [some m, some n] := fun e => by
  have h1 := congrArg List.length e
  have h2 := (List.getElem?_eq_some_iff.mp hp).1
  rw [List.length_map] at h1
  simp at h1
  omega
theorem no2_few {ps : List (Str × Tok)} {i : Nat} (hi : i < 2) (hp : ps[i]? = none) (m n : Int) : ps.map NN ≠ [some m, some n] := fun e => by
  have h1 := congrArg List.length e
  have h2 := List.getElem?_eq_none_iff.mp hp
  rw [List.length_map] at h1
  simp at h1
  omega
theorem is2 {ps : List (Str × Tok)} {p q : Str × Tok} {m n : Int} (h0 : ps[0]? = some p) (h1 : ps[1]? = some q) (h2 : ps[2]? = none) (hm : NN p = some m) (hn : NN q = some n) : ps.map NN = [some m, some n] := by
  match ps, h0, h1, h2 with
  | [a, b], h0, h1, _ =>
    have e1 : a = p := Option.some.inj h0
    have e2 : b = q := Option.some.inj h1
    rw [← hm, ← hn, ← e1, ← e2]
    rfl
  | [a], _, h1, _ => cases h1
  | _ :: _ :: _ :: _, _, _, h2 => cases h2

section
variable {prog : Program} {w : World} {A : Around} {E : Value → Shared → Prop} {s : Shared}
theorem mint_nextOf {mp tup it l : Addr} {i : Nat} {ps : List (Str × Tok)} {Q : Value → Shared → Prop} (hh : A.handled = none) (hM : MI s.heap mp tup it l i (strValues ps).toArray) (ho : ∀ p ∈ ps, okl (sl p.1) ∧ p.1.length ≤ 600)
    (hitem : ∀ p n h' tk, ps[i]? = some p → NN p = some n → Heap.ExtBut it s.heap h' → MI h' mp tup it l (i + 1) (strValues ps).toArray → Q (.int n tk) { s with heap := h', toks := tk + 1 })
    (hbad : ∀ p h₁ h' tk e, ps[i]? = some p → NN p = none → Heap.ExtBut it s.heap h₁ → Heap.NewExc h₁ h' e "ValueError" → E (.ref e) { s with heap := h', toks := tk })
    (hend : ∀ h' e, ps[i]? = none → Heap.ExtBut it s.heap h' → (∃ o, h'.get? e = some o ∧ o.cls = .type "StopIteration") → E (.ref e) { s with heap := h' }) :
    wpAny (model prog w) A (Builtin.SmallTypes.nextOf (.ref mp)) Q E s := by
  refine map_nextOf hM.m hM.t ?_
  cases hp : ps[i]? with
  | none =>
    exact wpAny_nextOf_list_end (by exact hh) hM.i hM.l (by rw [sv_get, hp]; rfl) fun h' e he hx => hend h' e hp he hx
  | some p =>
    refine wpAny_nextOf_list_item hM.i hM.l (x := .str p.1 p.2) (by rw [sv_get, hp]; rfl) fun h' hi hs => ?_
    have hM' := hM.step hs.extBut hi
    refine ⟨hM'.m, ?_⟩
    obtain ⟨hok, hlen⟩ := ho p (List.mem_of_getElem? hp)
    cases hn : NN p with
    | none => exact int_fail (by exact hh) hlen hok hn fun h₂ tk e hx => hbad p h' h₂ tk e hp hn hs.extBut hx
    | some n => exact wpH_of (KIN.call_text ((intText_ok hok hlen).trans hn) (Nat.le_trans hlen (by decide)) (hitem p n h' _ hp hn hs.extBut hM'))

theorem ve_not_stop : isSubtype (.type "ValueError") (.type "StopIteration") = pure false := by rw [isSubtype_type]; kernel_rfl

theorem mint_pyNext {mp tup it l : Addr} {i : Nat} {ps : List (Str × Tok)} {Q : Option Value → Shared → Prop} (hh : A.handled = none) (hM : MI s.heap mp tup it l i (strValues ps).toArray) (ho : ∀ p ∈ ps, okl (sl p.1) ∧ p.1.length ≤ 600)
    (hitem : ∀ p n h' tk, ps[i]? = some p → NN p = some n → Heap.ExtBut it s.heap h' → MI h' mp tup it l (i + 1) (strValues ps).toArray → Q (some (.int n tk)) { s with heap := h', toks := tk + 1 })
    (hbad : ∀ p h₁ h' tk e, ps[i]? = some p → NN p = none → Heap.ExtBut it s.heap h₁ → Heap.NewExc h₁ h' e "ValueError" → E (.ref e) { s with heap := h', toks := tk })
    (hend : ∀ h', ps[i]? = none → Heap.ExtBut it s.heap h' → Q none { s with heap := h' }) :
    wpAny (model prog w) A (pyNext (.ref mp)) Q E s := by
  have hT : s.TypeIs (.ref mp) "map" := ⟨_, hM.m, rfl⟩
  unfold pyNext
  refine wpAny_bind (wpAny_attempt (wpAny_callSpecial?_slot (name := Str.ofString "__next__") hT slot_map_next (map_call hM.m hM.t ?_)))
  cases hp : ps[i]? with
  | none =>
    refine wpAny_nextOf_list_end (by exact hh) hM.i hM.l (by rw [sv_get, hp]; rfl) fun h' e he hx => ?_
    obtain ⟨o, ho, hc⟩ := hx
    refine wpAny_bind (wpAny_isInstance (T := "StopIteration") (b := true) ⟨o, ho, hc⟩ isSubtype_stop ?_)
    exact wpAny_pure (hend h' hp he)
  | some p =>
    refine wpAny_nextOf_list_item hM.i hM.l (x := .str p.1 p.2) (by rw [sv_get, hp]; rfl) fun h' hi hs => ?_
    have hM' := hM.step hs.extBut hi
    refine ⟨hM'.m, ?_⟩
    obtain ⟨hok, hlen⟩ := ho p (List.mem_of_getElem? hp)
    cases hn : NN p with
    | none =>
      refine int_fail (by exact hh) hlen hok hn fun h₂ tk e hx => ?_
      obtain ⟨ob, tp, he, hcls, hd⟩ := hx.there
      refine wpAny_bind (wpAny_isInstance (T := "ValueError") (b := false) ⟨ob, he, hcls⟩ ve_not_stop ?_)
      exact wpAny_throw (hbad p h' h₂ tk e hp hn hs.extBut hx)
    | some n => exact wpH_of (KIN.call_text ((intText_ok hok hlen).trans hn) (Nat.le_trans hlen (by decide)) (wpAny_pure (hitem p n h' _ hp hn hs.extBut hM')))

theorem ext_trans {a : Addr} {h h₁ h₂ : Heap} (x : Heap.ExtBut a h h₁) (y : Heap.ExtBut a h₁ h₂) : Heap.ExtBut a h h₂ := fun b o hb e => y b o hb (x b o hb e)

theorem mint_unpack {mp tup it l : Addr} {ps : List (Str × Tok)} {Q : List Value → Shared → Prop} (hh : A.handled = none) (hM : MI s.heap mp tup it l 0 (strValues ps).toArray) (ho : ∀ p ∈ ps, okl (sl p.1) ∧ p.1.length ≤ 600)
    (hok : ∀ m n h' t₁ t₂ tk, ps.map NN = [some m, some n] → Heap.ExtBut it s.heap h' → Q [.int m t₁, .int n t₂] { s with heap := h', toks := tk })
    (hbad : ∀ h₁ h' tk e, (∀ m n, ps.map NN ≠ [some m, some n]) → Heap.ExtBut it s.heap h₁ → Heap.NewExc h₁ h' e "ValueError" → E (.ref e) { s with heap := h', toks := tk }) :
    wpAny (model prog w) A (unpackItems (.ref mp) 2 none) Q E s := by
  have hT : s.TypeIs (.ref mp) "map" := ⟨_, hM.m, rfl⟩
  unfold unpackItems
  refine wpAny_bind ?_
  unfold notIterableAtAll
  refine wpAny_bind (wpAny_specialOf hT slot_map_iter.lookup ?_)
  refine wpAny_pure ?_
  simp only [Bool.false_eq_true, if_false]
  refine wpAny_bind (wpAny_holding (map_pyIter hM.m ?_))
  refine wpAny_bind (wpAny_holding ?_)
  show wpAny _ _ (pyNext (.ref mp) >>= _) _ _ _
  refine wpAny_bind (mint_pyNext hh hM ho ?_ ?_ ?_)
  · -- first number
    intro p n h₁ tk hp hn e₁ M₁
    refine wpAny_bind (wpAny_holding ?_)
    show wpAny _ _ (pyNext (.ref mp) >>= _) _ _ _
    refine wpAny_bind (mint_pyNext (by exact hh) M₁ ho ?_ ?_ ?_)
    · intro p' n' h₂ tk₂ hp' hn' e₂ M₂
      refine wpAny_bind (wpAny_holding (wpAny_pure ?_))
      refine wpAny_pure (wpAny_pure ?_)
      rw [if_neg (by simp)]
      refine wpAny_bind (wpAny_holding (mint_pyNext (by exact hh) M₂ ho ?_ ?_ ?_))
      · intro p₃ n₃ h₃ tk₃ hp₃ hn₃ e₃ M₃
        simp only [Option.isSome_some, if_true]
        refine wpAny_bind (wpAny_rule ?_)
        refine wpAny_bind (wpAny_raiseErrorMade plainExc_ValueError (by exact hh) fun h₄ tk₄ e hx => ?_)
        exact hbad h₃ h₄ tk₄ e (no2_many hp₃) (ext_trans e₁ (ext_trans e₂ e₃)) hx
      · intro p₃ h₃ h₄ tk₄ e hp₃ hn₃ e₃ hx
        exact hbad h₃ h₄ tk₄ e (no2_many hp₃) (ext_trans e₁ (ext_trans e₂ e₃)) hx
      · intro h₃ hp₃ e₃
        simp only [Option.isSome_none, Bool.false_eq_true, if_false]
        exact wpAny_pure (hok n n' h₃ _ _ _ (is2 hp hp' hp₃ hn hn') (ext_trans e₁ (ext_trans e₂ e₃)))
    · intro p' h₂ h₃ tk₃ e hp' hn' e₂ hx
      exact hbad h₂ h₃ tk₃ e (no2_bad hp' hn') (ext_trans e₁ e₂) hx
    · intro h₂ hp' e₂
      refine wpAny_pure (wpAny_pure ?_)
      rw [if_pos (by simp)]
      refine wpAny_bind (wpAny_rule ?_)
      simp only [List.length_cons, List.length_nil, Nat.zero_add]
      refine wpAny_bind (wpAny_raiseErrorMade plainExc_ValueError (by exact hh) fun h₄ tk₄ e hx => ?_)
      exact hbad h₂ h₄ tk₄ e (no2_few (by decide) hp') (ext_trans e₁ e₂) hx
  · intro p h₁ h₂ tk e hp hn e₁ hx
    exact hbad h₁ h₂ tk e (no2_bad hp hn) e₁ hx
  · intro h₁ hp e₁
    refine wpAny_pure ?_
    rw [if_pos (by simp)]
    refine wpAny_bind (wpAny_rule ?_)
    refine wpAny_bind (wpAny_raiseErrorMade plainExc_ValueError (by exact hh) fun h₄ tk₄ e hx => ?_)
    exact hbad h₁ h₄ tk₄ e (no2_few (by decide) hp) e₁ hx

theorem mint_make {l : Addr} {items : Array Value} {Q : Value → Shared → Prop} (hl : s.heap.IsList l items)
    (h : ∀ mp tup h', MI h' mp tup s.heap.objs.size l 0 items → (∀ b o, s.heap.get? b = some o → h'.get? b = some o) → Q (.ref mp) { s with heap := h' }) :
    wpAny (model prog w) A (call (.type "map") [.type "int", .ref l]) Q E s := by
  refine call_map (wpAny_pyIter_list hl ?_)
  refine h _ (s.heap.push { cls := .type "list_iterator", data := .fields #[.ref l, .int 0 0] }).objs.size _ ⟨?_, ?_, ?_, ?_⟩ fun b o e => Heap.get?_push_of_some _ (Heap.get?_push_of_some _ (Heap.get?_push_of_some _ e))
  · dsimp only
    rw [← Heap.size_push]
    exact Heap.get?_push_size _ rfl
  · exact Heap.get?_push_of_some _ (Heap.get?_push_size _ rfl)
  · exact ⟨_, Heap.get?_push_of_some _ (Heap.get?_push_of_some _ (Heap.get?_push_size _ rfl)), rfl, rfl⟩
  · obtain ⟨o, ho, r⟩ := hl
    exact ⟨o, Heap.get?_push_of_some _ (Heap.get?_push_of_some _ (Heap.get?_push_of_some _ ho)), r⟩
end
end Mine

end
/- part B6 -/
noncomputable section
open PySem PySem.W PyProof.Rows
namespace Mine
open PySem.Calls
set_option maxRecDepth 100000

section
variable {prog : Program} {w : World} {A₀ : Around} {E : Value → Shared → Prop} {s' : Shared} {base g G B : Heap} {outer : List Env} {L a e : Addr} {m : Str → Option Value} {name : Str} {scope : Scope} {cd a0 : Value}
  {b₀ : Stmt} {suite : List Stmt} {pos np : Pos} {rest : List ExceptHandler} {Q : Flow → Shared → Prop} {KF : Frag}
  {p : Program} {loose : List Str} {mean : ExcName → Option Value} {mg mb : Str → Option Value} {x : Str} {X T' : String}

/-- a clause that takes the exception noted in this frame -/
theorem take_clause (hh : Heap.HeldW B (envOf name scope L a cd :: outer) e (.type X) a0 L s'.heap) (F : Fr g L G m) (K : Below A₀ base outer g) (hsm : G.UpToSlots s'.heap) (XB : KF.In base) (TB : Top p loose mean mg mb base)
    (hBG : ∀ b o, G.get? b = some o → b ∉ (envOf name scope L a cd :: outer).filterMap (·.frame) → B.get? b = some o)
    (ex : nsIn KF mainGlobals x = some none) (hv : bootBuiltins x = some (.type T')) (hn' : x ≠ "__name__")
    (hexc : isSubtype (.type T') (.type "BaseException") = pure true) (hnt : isSubtype (.type ((Manifest.find? T').elim "type" fun y => y.metatype)) (.type "tuple") = pure false) (hsub : isSubtype (.type X) (.type T') = pure true)
    (k : ∀ h' g', KtsTurn (outer.filterMap (·.frame)) g g' → Fr g' L h' m → (∀ b o, B.get? b = some o → h'.get? b = some o) → Below A₀ base outer g' → KF.In g' → Top p loose mean mg mb g' →
      wpAny (model prog w) ((A₀.deeper (envOf name scope L a cd)).mark (some (.ref e))) (execs (b₀ :: suite) (envOf name scope L a cd)) Q E { s' with heap := h' })
    (hk : scope.kind = .function := by rfl) (hx : (envOf name scope L a cd).kindOf x = some .globalImplicit := by rfl) (hd : (x == ("__debug__" : Str)) = false := by decide)
    (hE : PassesOwnAt (model prog w) ((A₀.deeper (envOf name scope L a cd)).mark (some (.ref e))) (A₀.deeper (envOf name scope L a cd)) (envOf name scope L a cd) E := by passes_own) :
    wpAny (model prog w) (A₀.deeper (envOf name scope L a cd)) (setFlight (.ref e) none) (fun _ s₃ =>
        wpAny (model prog w) (A₀.deeper (envOf name scope L a cd)) (handleBy (.ref e) (envOf name scope L a cd) (.ExceptHandler (some (.Name x np)) none (b₀ :: suite) pos :: rest)) Q E s₃) E s' := by
  refine wpAny_landsW hh fun h₅ hheld hsm₅ => ?_
  obtain ⟨g₅, T₅, F₅, K₅⟩ := kts_ground K F hBG hheld.1 (hsm.trans hsm₅)
  have X₅ : KF.In g₅ := XB.keeps K₅.stays
  have P₅ : TopRead p loose mg mb g₅ := topRead_of (TB.keeps K₅.stays)
  obtain ⟨ob, hob, hobc⟩ := hheld.there
  refine wpAny_handleBy_builtin (X := X) (T := T') (b := true) hexc hnt hsub (name_B F₅ X₅ P₅ ex hv hn' ⟨rfl, ⟨ob, hob, hobc⟩, ?_⟩ hk hx hd)
  refine lands_againW hheld fun h₆ hfl₆ hsm₆ => ?_
  obtain ⟨g₆, T₆, F₆, K₆⟩ := kts_ground K F hBG hfl₆.1 ((hsm.trans hsm₅).trans hsm₆)
  exact wpAny_passesOwnAt hE (k h₆ g₆ T₆ F₆ hfl₆.1 K₆ (XB.keeps K₆.stays) (TB.keeps K₆.stays))

/-- an exception made in this frame is noted in it -/
theorem note_own {h : Heap} {Q : Unit → Shared → Prop} (K : Below A₀ base outer g) (hx : Heap.NewExc h s'.heap e X) (F : Fr g L h m)
    (k : ∀ B a0 h', Heap.HeldW B (envOf name scope L a cd :: outer) e (.type X) a0 L h' → h.UpToSlots h' → (∀ b o, h.get? b = some o → b ∉ (envOf name scope L a cd :: outer).filterMap (·.frame) → B.get? b = some o) → Q () { s' with heap := h' })
    (hk : scope.kind = .function := by rfl) :
    wpAny (model prog w) (A₀.deeper (envOf name scope L a cd)) (noteFrame (.ref e) (envOf name scope L a cd)) Q E s' := by
  have K' := K.push (name := name) (a := a) (cd := cd) F hk
  have hin : ∀ env ∈ (envOf name scope L a cd :: outer), ∀ b, env.frame = some b → b ∈ (envOf name scope L a cd :: outer).filterMap (·.frame) := fun env he b hb => List.mem_filterMap.mpr ⟨env, he, hb⟩
  obtain ⟨ob, tp, he, hcls, hd⟩ := hx.there
  have hen : (hideAll h ((envOf name scope L a cd :: outer).filterMap (·.frame))).get? e = none := by
    cases q : (hideAll h ((envOf name scope L a cd :: outer).filterMap (·.frame))).get? e with
    | none => rfl
    | some o => have := of_hideAll _ q; rw [hx.new] at this; cases this
  have hFF := (funFrames_hide K'.frames hin).of_keeps (h' := s'.heap) fun b o hb _ => ⟨o, hx.keeps b o hb, rfl⟩
  unfold noteFrame
  simp only [show (envOf name scope L a cd).frame = some L from rfl]
  refine wpAny_bind (wpAny_field he hd (x := .none) rfl ?_)
  rw [if_neg (by decide)]
  refine wpAny_entryW (a0 := tp) K'.stack hFF rfl he (fun b o hb => hx.keeps b o (of_hideAll _ hb)) hen hd (by show 1 < 6; decide) rfl fun h' hN => ?_
  obtain ⟨k1, k2, k3, k4⟩ := hN
  exact k _ tp h' ⟨k1, hen, k2, by rw [← hcls]; exact k3⟩ ((Heap.UpToSlots.of_keeps hx.keeps).trans k4) fun b o hb hn => hideAll_get _ hb hn
/-- an exception that flew in from a call is noted -/
theorem note_in {Q : Unit → Shared → Prop} {news : List (Addr × Obj)} (K : Below A₀ base outer g) (R : RaisedSN base G (envOf name scope L a cd :: outer) e (.type X) news s'.heap) (hsm : G.UpToSlots s'.heap)
    (k : ∀ B a0 h', Heap.HeldW B (envOf name scope L a cd :: outer) e (.type X) a0 L h' → G.UpToSlots h' → (∀ b o, G.get? b = some o → b ∉ (envOf name scope L a cd :: outer).filterMap (·.frame) → B.get? b = some o) → Q () { s' with heap := h' }) :
    wpAny (model prog w) (A₀.deeper (envOf name scope L a cd)) (noteFrame (.ref e) (envOf name scope L a cd)) Q E s' := by
  obtain ⟨B, a0, hB, hBG, hl, hfl⟩ := R
  exact wpAny_looks_onW (Around.frames_deeper K.stack) rfl hfl fun h₄ hheld₄ hsm₄ => k B a0 h₄ hheld₄ (hsm.trans hsm₄) hBG
end
end Mine

end
/- part G2 -/
noncomputable section
open PySem PySem.W PyProof.Rows
namespace Mine
open PySem.Calls
local macro_rules | `(tactic| walk_at "s1") => `(tactic| first
  | (k_unfold; (try dsimp only))
  | ((with_reducible show wpAny _ _ _ _ _ _); (fail_if_success (with_reducible show wpAny _ _ (exec (Stmt.For _ _ _ _ _) _) _ _ _)); (fail_if_success (with_reducible show wpAny _ _ (exec (Stmt.While _ _ _ _) _) _ _ _)); (fail_if_success (with_reducible show wpAny _ _ (eval (Expr.ListComp _ _ _ _) _) _ _ _)); (fail_if_success (with_reducible show wpAny _ _ (exec (Stmt.Assign _ (Expr.ListComp _ _ _ _) _) _) _ _ _)); walk1)
  | ((with_reducible show ite _ _ _); walk1)
  | (dsimp only; (with_reducible show wpAny _ _ _ _ _ _)))
local macro_rules | `(tactic| walk_at "s0") => `(tactic| ((fail_if_success (with_reducible show wpAny _ _ (exec (Stmt.If _ _ _ _) _) _ _ _)); walk_at "s1"))
local macro_rules | `(tactic| walk_at "enter") => `(tactic| (
  refine wpAny_call ?_
  k_dflt (refine' enter (by assumption) (by assumption) ?ho ?hcd ?hr ?hb ?hl ?_ ?c2 ?c3 ?c4 ?c5)
  (case ho => k_is)
  (case hcd => k_is)
  (case hr => omega)
  (case hb => first | exact BindsTo.of_eq rfl | exact binds_K (by assumption) rfl (by k_is) rfl rfl rfl)
  (case hl => exact locs rfl)
  (case c2 => rfl)
  (case c3 => rfl)
  (case c4 => rfl)
  (case c5 => decide)))
local macro_rules | `(tactic| walk_at "eval Name") => `(tactic| ((with_reducible show wpAny _ _ (eval (Expr.Name _ _) (compEnvC _ _ _ _)) _ _ _); k_dflt (first
  | (refine' comp_local ?n ?v ?_ ?k ?l ?d; (case k => rfl); (case l => rfl); (case d => decide); (case n => assumption); (case v => assumption))
  | (refine' comp_global ?X ?T ?e ?_ ?g ?k ?l ?d; (case g => rfl); (case k => rfl); (case l => rfl); (case d => decide); (case X => assumption); (case T => assumption); (case e => k_is))
  | (refine' comp_builtin ?X ?T ?e ?v ?n ?_ ?g ?b ?k ?l ?d; (case g => rfl); (case b => rfl); (case k => rfl); (case l => rfl); (case d => decide); (case X => assumption); (case T => assumption); (case e => k_is); (case v => boot_by_name); (case n => decide)))))
set_option maxRecDepth 100000 in
set_option maxHeartbeats 8000000 in
theorem glc_spec {w : World} {A : Around} {s : Shared} {Q E : Value → Shared → Prop} {mean : ExcName → Option Value} {mg mb : Str → Option Value} {base : Heap} {outer : List Env} (x : Str) (tx : Tok)
  (hx : x.length ≤ 600) (hok : okl (sl x)) (X : (hd.heap_39 w.params).In s.heap) (T : Top hd.view_39 LO mean mg mb s.heap) (K : Below A base outer s.heap)
  (hroom : A.depth + 5 < recursionLimit) (hh : A.handled = none) 
  (hret : ∀ m n a t₁ t₂ h' tk', placeOf (sl x) = some (m, n) → (∀ b o, s.heap.get? b = some o → h'.get? b = some o) → s.heap.get? a = none → h'.get? a = some { cls := .type "tuple", data := .seq #[.int m t₁, .int n t₂] } → Q (.ref a) { s with heap := h', toks := tk' })
  (hraise : ∀ e h' tk', placeOf (sl x) = none → RaisedSN base s.heap outer e (.type "ValueError") [] h' → s.heap.UpToSlots h' → E (.ref e) { s with heap := h', toks := tk' }) :
      wpAny (model PySem.Challenge.rw_mq0066_01.row.prog w) A (call (.ref 38) [.str x tx]) Q E s := by
  revert X; k_fill; intro X
  walk_at "enter"
  intro L' h₁ hL F N
  k_fold
  repeat' walk_at "s0"
  rename _ = Txt.split _ _ => hsp
  rename ∀ a ∈ List.map _ _, Str.length a ≤ Str.length x => hlen
  rename Heap.IsList _ _ _ => hIL
  rename Fr _ _ _ _ => F'
  rename News _ _ _ _ => N'
  rename List (Str × Tok) => ps
  have hps : ps.map (fun p => sl p.1) = dots (sl x) := by
    rw [← sl_split, ← hsp, List.map_map]; rfl
  have hoks : ∀ p ∈ ps, okl (sl p.1) ∧ p.1.length ≤ 600 := fun p hp => by
    refine ⟨fun c hc => ?_, Nat.le_trans (hlen _ (List.mem_map_of_mem hp)) hx⟩
    have : sl p.1 ∈ dots (sl x) := by rw [← hps]; exact List.mem_map_of_mem hp
    exact hok c (dots_mem _ _ this c hc)
  refine mint_make hIL fun mp tup h₂ hM e₂ => ?_
  rw [assign_Tuple]
  refine wpAny_bind (wpAny_standAt ?_)
  unfold unpack
  refine wpAny_bind (wpAny_holding ?_)
  refine mint_unpack (ps := ps) (by exact hh) hM hoks ?_ ?_
  · intro m n h₃ t₁ t₂ tk₃ hmn e₃
    have e₄ : Heap.ExtBut _ _ h₃ := fun b o hb e => e₃ b o hb (e₂ b o e)
    replace F' := F'.extBut e₄ (Nat.le_refl _)
    replace N' := N'.extBut e₄ (Nat.le_refl _)
    clear e₄ e₃ hM e₂ hIL
    have hpl : placeOf (sl x) = some (m, n) := place_two (by rw [← hps, List.map_map]; exact hmn)
    repeat' walk_at "s1"
    rename Fr _ _ _ _ => F'
    rename News _ _ _ _ => N'
    exact hret m n _ t₁ t₂ _ _ hpl F'.keep (N' _ (.head _)).2.2 (N' _ (.head _)).1
  · intro h₃ h₄ tk₄ e hne e₃ hx₄
    have e₄ : Heap.ExtBut _ _ h₃ := fun b o hb e => e₃ b o hb (e₂ b o e)
    replace F' := F'.extBut e₄ (Nat.le_refl _)
    have hpl : placeOf (sl x) = none := place_no fun m n => by rw [← hps, List.map_map]; exact hne m n
    refine leave_newS K hx₄ F' News.nil (fun h' R _ hs => ?_) rfl
    exact hraise e h' _ hpl R hs
end Mine

end
/- part G3 -/
noncomputable section
open PySem PySem.W PyProof.Rows
namespace Mine
open PySem.Calls
local macro_rules | `(tactic| walk_at "s1") => `(tactic| first
  | (k_unfold; (try dsimp only))
  | ((with_reducible show wpAny _ _ _ _ _ _); (fail_if_success (with_reducible show wpAny _ _ (exec (Stmt.For _ _ _ _ _) _) _ _ _)); (fail_if_success (with_reducible show wpAny _ _ (call (Value.ref _) _) _ _ _)); (fail_if_success (with_reducible show wpAny _ _ (exec (Stmt.Try _ _ _ _ _) _) _ _ _)); (fail_if_success (with_reducible show wpAny _ _ (exec (Stmt.While _ _ _ _) _) _ _ _)); (fail_if_success (with_reducible show wpAny _ _ (eval (Expr.ListComp _ _ _ _) _) _ _ _)); (fail_if_success (with_reducible show wpAny _ _ (exec (Stmt.Assign _ (Expr.ListComp _ _ _ _) _) _) _ _ _)); walk1)
  | ((with_reducible show ite _ _ _); walk1)
  | (dsimp only; (with_reducible show wpAny _ _ _ _ _ _)))
local macro_rules | `(tactic| walk_at "s0") => `(tactic| ((fail_if_success (with_reducible show wpAny _ _ (exec (Stmt.If _ _ _ _) _) _ _ _)); walk_at "s1"))
local macro_rules | `(tactic| walk_at "enter") => `(tactic| (
  refine wpAny_call ?_
  k_dflt (refine' enter (by assumption) (by assumption) ?ho ?hcd ?hr ?hb ?hl ?_ ?c2 ?c3 ?c4 ?c5)
  (case ho => k_is)
  (case hcd => k_is)
  (case hr => omega)
  (case hb => first | exact BindsTo.of_eq rfl | exact binds_K (by assumption) rfl (by k_is) rfl rfl rfl)
  (case hl => exact locs rfl)
  (case c2 => rfl)
  (case c3 => rfl)
  (case c4 => rfl)
  (case c5 => decide)))
local macro_rules | `(tactic| walk_at "eval Name") => `(tactic| ((with_reducible show wpAny _ _ (eval (Expr.Name _ _) (compEnvC _ _ _ _)) _ _ _); k_dflt (first
  | (refine' comp_local ?n ?v ?_ ?k ?l ?d; (case k => rfl); (case l => rfl); (case d => decide); (case n => assumption); (case v => assumption))
  | (refine' comp_global ?X ?T ?e ?_ ?g ?k ?l ?d; (case g => rfl); (case k => rfl); (case l => rfl); (case d => decide); (case X => assumption); (case T => assumption); (case e => k_is))
  | (refine' comp_builtin ?X ?T ?e ?v ?n ?_ ?g ?b ?k ?l ?d; (case g => rfl); (case b => rfl); (case k => rfl); (case l => rfl); (case d => decide); (case X => assumption); (case T => assumption); (case e => k_is); (case v => boot_by_name); (case n => decide)))))
def Turned (fs : List Addr) (h h' : Heap) : Prop := (∀ b o, h.get? b = some o → b ∉ fs → h'.get? b = some o) ∧ (∀ b o, h.get? b = some o → ∃ sl, h'.get? b = some { o with slots := sl })
theorem Turned.of_keeps {fs : List Addr} {h h' : Heap} (k : ∀ b o, h.get? b = some o → h'.get? b = some o) : Turned fs h h' := ⟨fun b o e _ => k b o e, fun b o e => ⟨o.slots, k b o e⟩⟩
theorem Turned.of_turn {fs : List Addr} {h g h' : Heap} (t : KtsTurn fs h g) (k : ∀ b o, g.get? b = some o → h'.get? b = some o) : Turned fs h h' :=
  ⟨fun b o e n => k b o (t.other b o e n), fun b o e => let ⟨sl, hs⟩ := t.up e; ⟨sl, k _ _ hs⟩⟩
def placeV (r : Option (Int × Int)) (v : Value) (h h' : Heap) : Prop := match r with
  | none => v = .none
  | some (m, n) => ∃ a t₁ t₂, v = .ref a ∧ h.get? a = none ∧ h'.get? a = some { cls := .type "tuple", data := .seq #[.int m t₁, .int n t₂] }
set_option maxRecDepth 100000 in
set_option maxHeartbeats 8000000 in
theorem place_spec {w : World} {A : Around} {s : Shared} {Q E : Value → Shared → Prop} {mean : ExcName → Option Value} {mg mb : Str → Option Value} {base : Heap} {outer : List Env} (x : Str) (tx : Tok)
  (hx : x.length ≤ 600) (hok : okl (sl x)) (X : (hd.heap_39 w.params).In s.heap) (T : Top hd.view_39 LO mean mg mb s.heap) (K : Below A base outer s.heap) (XB : (hd.heap_39 w.params).In base) (TB : Top hd.view_39 LO mean mg mb base)
  (hroom : A.depth + 7 < recursionLimit) (hh : A.handled = none) 
  (hret : ∀ v h' tk', Turned (outer.filterMap (·.frame)) s.heap h' → placeV (placeOf (sl x)) v s.heap h' → Q v { s with heap := h', toks := tk' }) :
      wpAny (model PySem.Challenge.rw_mq0066_01.row.prog w) A (call (.ref 85) [.str x tx]) Q E s := by
  revert X; k_fill; intro X
  walk_at "enter"
  intro L' h₁ hL F N
  refine wpAny_mono (E := fun _ _ => False) ?_ (fun _ _ h => h) (fun _ _ h => h.elim)
  k_fold
  repeat' walk_at "s0"
  refine wpAny_Try_except ?_
  repeat' walk_at "s0"
  refine ⟨X.keeps F.keep, ?_⟩
  refine glc_spec (base := base) x tx hx hok (X.keeps F.keep) (T.keeps F.keep) (K.push F rfl) (by show A.depth + 1 + 5 < _; omega) (by exact hh) ?_ ?_
  · intro m n a t₁ t₂ h' tk' hpl hk ha hv
    refine hret _ _ _ (Turned.of_keeps fun b o e => hk b o (F.keep b o e)) ?_
    rw [hpl]
    refine ⟨a, t₁, t₂, rfl, ?_, hv⟩
    cases q : s.heap.get? a with
    | none => rfl
    | some o => rw [F.keep _ _ q] at ha; cases ha
  · intro e h' tk' hpl R hsm
    refine note_in K R hsm fun B a0 h₂ hH hs₂ hBG => ?_
    k_dflt (refine' take_clause (KF := hd.heap_39 w.params) hH F K hs₂ XB TB hBG ?ex ?hv ?hn ?h1 ?h2 ?h3 ?_ ?k1 ?k2 ?k3 ?k4)
    (case ex => k_is)
    (case hv => boot_by_name)
    (case hn => decide)
    (case h1 => exact isSubtype_of_subB (by decide +kernel))
    (case h2 => exact isSubtype_of_subB (by decide +kernel))
    (case h3 => exact isSubtype_of_subB (by decide +kernel))
    (case k1 => rfl)
    (case k2 => rfl)
    (case k3 => decide)
    (case k4 => exact PassesOwnAt.never)
    intro h₃ g' T' F₃ _ K₃ X₃ P₃
    repeat' walk_at "s0"
    exact hret _ _ _ (Turned.of_turn T' F₃.keep) (by rw [hpl]; exact rfl)
end Mine

end
/- part B7 -/
noncomputable section
open PySem PySem.W PyProof.Rows
namespace Mine
open PySem.Calls
open Sem (wp)
set_option maxRecDepth 100000

theorem map_no_len : typeLookup (.type "map") "__len__" = pure none := by rw [typeLookup_type, builtinLookup_eq_fast]; kernel_rfl
theorem map_no_hint : typeLookup (.type "map") "__length_hint__" = pure none := by rw [typeLookup_type, builtinLookup_eq_fast]; kernel_rfl
theorem log_small {n : Int} (h : n.natAbs < 10 ^ 9) : n.natAbs.log2 < 1920 := by
  by_cases h0 : n.natAbs = 0
  · rw [h0]; decide
  · rw [Nat.log2_lt h0]
    exact Nat.lt_trans h (by decide)

/-- str over int over a list -/
structure SI (h : Heap) (om otup mp tup it l : Addr) (i : Nat) (items : Array Value) : Prop where
  m : h.get? om = some (mapObj otup (.type "str"))
  t : h.get? otup = some (tup1 (.ref mp))
  i : MI h mp tup it l i items
theorem SI.mne {h : Heap} {om otup mp tup it l : Addr} {i : Nat} {items : Array Value} (x : SI h om otup mp tup it l i items) : om ≠ it := by
  obtain ⟨o, ho, hc, _⟩ := x.i.i
  exact ne_cls x.m ho (by rw [hc]; intro e; injection e with e; exact absurd e (by decide))
theorem SI.tne {h : Heap} {om otup mp tup it l : Addr} {i : Nat} {items : Array Value} (x : SI h om otup mp tup it l i items) : otup ≠ it := by
  obtain ⟨o, ho, hc, _⟩ := x.i.i
  exact ne_cls x.t ho (by rw [hc]; intro e; injection e with e; exact absurd e (by decide))
theorem SI.step {h h' : Heap} {om otup mp tup it l : Addr} {i j : Nat} {items : Array Value} (x : SI h om otup mp tup it l i items) (e : Heap.ExtBut it h h') (hi : MI h' mp tup it l j items) : SI h' om otup mp tup it l j items :=
  ⟨e _ _ x.mne x.m, e _ _ x.tne x.t, hi⟩
theorem SI.ext {h h' : Heap} {om otup mp tup it l : Addr} {i : Nat} {items : Array Value} (x : SI h om otup mp tup it l i items) (e : ∀ b o, h.get? b = some o → h'.get? b = some o) : SI h' om otup mp tup it l i items :=
  ⟨e _ _ x.m, e _ _ x.t, x.i.ext e⟩
/-- a fresh list's change leaves the maps alone -/
theorem SI.apart {h h' : Heap} {om otup mp tup it l S : Addr} {i : Nat} {items : Array Value} (x : SI h om otup mp tup it l i items) (h1 : om ≠ S) (h2 : otup ≠ S) (h3 : mp ≠ S) (h4 : tup ≠ S) (h5 : it ≠ S) (h6 : l ≠ S) (e : ∀ b o, b ≠ S → h.get? b = some o → h'.get? b = some o) : SI h' om otup mp tup it l i items :=
  ⟨e _ _ h1 x.m, e _ _ h2 x.t, ⟨e _ _ h3 x.i.m, e _ _ h4 x.i.t, let ⟨o, ho, r⟩ := x.i.i; ⟨o, e _ _ h5 ho, r⟩, let ⟨o, ho, r⟩ := x.i.l; ⟨o, e _ _ h6 ho, r⟩⟩⟩

/-- the values got so far: the texts of the first i numbers -/
def Texts (ps : List (Str × Tok)) (i : Nat) (acc : Array Value) : Prop := ∃ qs : List (Str × Tok), acc = (strValues qs).toArray ∧ ∃ ns : List Int, (ps.take i).map NN = ns.map some ∧ qs.map (fun q => sl q.1) = ns.map txt

section
variable {prog : Program} {w : World} {A : Around} {E : Value → Shared → Prop} {s : Shared}
theorem sint_pyNext {om otup mp tup it l : Addr} {i : Nat} {ps : List (Str × Tok)} {Q : Option Value → Shared → Prop} (hh : A.handled = none) (hM : SI s.heap om otup mp tup it l i (strValues ps).toArray) (ho : ∀ p ∈ ps, okl (sl p.1) ∧ p.1.length ≤ 9)
    (hitem : ∀ p n h' t tk, ps[i]? = some p → NN p = some n → Heap.ExtBut it s.heap h' → SI h' om otup mp tup it l (i + 1) (strValues ps).toArray → Q (some (.str (Str.ofString (toString n)) t)) { s with heap := h', toks := tk })
    (hbad : ∀ p h₁ h' tk e, ps[i]? = some p → NN p = none → Heap.ExtBut it s.heap h₁ → Heap.NewExc h₁ h' e "ValueError" → E (.ref e) { s with heap := h', toks := tk })
    (hend : ∀ h', ps[i]? = none → Heap.ExtBut it s.heap h' → Q none { s with heap := h' }) :
    wpAny (model prog w) A (pyNext (.ref om)) Q E s := by
  have hT : s.TypeIs (.ref om) "map" := ⟨_, hM.m, rfl⟩
  have ho' : ∀ p ∈ ps, okl (sl p.1) ∧ p.1.length ≤ 600 := fun p hp => ⟨(ho p hp).1, Nat.le_trans (ho p hp).2 (by decide)⟩
  unfold pyNext
  refine wpAny_bind (wpAny_attempt (wpAny_callSpecial?_slot (name := Str.ofString "__next__") hT slot_map_next (map_call hM.m hM.t ?_)))
  refine mint_nextOf (by exact hh) hM.i ho' ?_ ?_ ?_
  · intro p n h' tk hp hn he hM'
    have hS := hM.step he hM'
    refine ⟨hS.m, wpH_of (P.str_of_int (log_small ?_) (wpAny_pure (hitem p n h' _ _ hp hn he hS)))⟩
    have := (ho p (List.mem_of_getElem? hp)).2
    exact lawNum_bound (by rw [← len_sl]; exact this) hn
  · intro p h₁ h₂ tk e hp hn he hx
    obtain ⟨ob, tp, heo, hcls, hd⟩ := hx.there
    refine wpAny_bind (wpAny_isInstance (T := "ValueError") (b := false) ⟨ob, heo, hcls⟩ ve_not_stop ?_)
    exact wpAny_throw (hbad p h₁ h₂ tk e hp hn he hx)
  · intro h' e hp he hx
    obtain ⟨o, ho, hc⟩ := hx
    refine wpAny_bind (wpAny_isInstance (T := "StopIteration") (b := true) ⟨o, ho, hc⟩ isSubtype_stop ?_)
    exact wpAny_pure (hend h' hp he)

theorem take_nums {ps : List (Str × Tok)} {i : Nat} {p : Str × Tok} {n : Int} {ns : List Int} (h : (ps.take i).map NN = ns.map some) (hp : ps[i]? = some p) (hn : NN p = some n) : (ps.take (i + 1)).map NN = (ns ++ [n]).map some := by
  rw [List.take_add_one, hp, List.map_append, List.map_append, h]
  exact congrArg _ (congrArg (fun z => [z]) hn)
theorem sv_snoc (l : List (Str × Tok)) (p : Str) (t : Tok) : (strValues l).toArray.push (.str p t) = (strValues (l ++ [(p, t)])).toArray := by simp [strValues]
theorem sv_size (l : List (Str × Tok)) : (strValues l).toArray.size = l.length := by simp [strValues]

theorem sint_loop {om otup mp tup it l S : Addr} {ps : List (Str × Tok)} {R : Result → Shared → Prop} {hb : Heap} {res : Value} (hh : A.handled = none) (ho : ∀ p ∈ ps, okl (sl p.1) ∧ p.1.length ≤ 9) (hlen : ps.length ≤ 100)
    (h1 : om ≠ S) (h2 : otup ≠ S) (h3 : mp ≠ S) (h4 : tup ≠ S) (h5 : it ≠ S) (h6 : l ≠ S)
    (hR : ∀ h' tk (qs : List (Str × Tok)) (ns : List Int) c', (∀ b o, b ≠ S → b ≠ it → hb.get? b = some o → h'.get? b = some o) → h'.get? S = some (listOf (strValues qs).toArray c') → ps.map NN = ns.map some → qs.map (fun q => sl q.1) = ns.map txt → R (.ok (.ret res)) { s with heap := h', toks := tk })
    (hE : ∀ h₁ h' tk e, (∀ b o, b ≠ S → b ≠ it → hb.get? b = some o → h₁.get? b = some o) → Heap.NewExc h₁ h' e "ValueError" → (∃ p ∈ ps, NN p = none) → R (.error (.ref e)) { s with heap := h', toks := tk }) :
    ∀ (k i : Nat) (h : Heap) (tk : Nat) (qs : List (Str × Tok)) (ns : List Int) (c : Nat), ps.length - i = k → i ≤ ps.length → SI h om otup mp tup it l i (strValues ps).toArray → h.get? S = some (listOf (strValues qs).toArray c) →
    (ps.take i).map NN = ns.map some → qs.map (fun q => sl q.1) = ns.map txt → (∀ b o, b ≠ S → b ≠ it → hb.get? b = some o → h.get? b = some o) →
    codeAny (model prog w) A (.builtin "list.extend.loop" ⟨[.ref S, .ref om, res], []⟩) R { s with heap := h, toks := tk } := by
  intro k
  induction k with
  | zero =>
    intro i h tk qs ns c hk hi hM hS hns hqs hkeep
    have hin : i = ps.length := by omega
    subst hin
    refine codeAny_builtin F.entry_extend_loop ?_
    rw [Around.under_plainId F.plain_extend_loop _]
    show wpAny _ A.in1 (pyNext (.ref om) >>= _) _ _ _
    refine wpAny_bind (sint_pyNext (by exact hh) hM ho ?_ ?_ ?_)
    · intro p n h' t tk' hp
      rw [List.getElem?_eq_none (Nat.le_refl _)] at hp
      cases hp
    · intro p h₁ h' tk' e hp
      rw [List.getElem?_eq_none (Nat.le_refl _)] at hp
      cases hp
    · intro h' _ he
      refine wpAny_pure (hR h' _ qs ns c (fun b o hb hb' e => he b o hb' (hkeep b o hb hb' e)) (he S _ (Ne.symm h5) hS) ?_ hqs)
      rw [List.take_length] at hns
      exact hns
  | succ k ih =>
    intro i h tk qs ns c hk hi hM hS hns hqs hkeep
    have hlt : i < ps.length := by omega
    have hqn : qs.length = i := by
      have e1 := congrArg List.length hns
      have e2 := congrArg List.length hqs
      simp only [List.length_map, List.length_take] at e1 e2
      omega
    refine codeAny_builtin F.entry_extend_loop ?_
    rw [Around.under_plainId F.plain_extend_loop _]
    show wpAny _ A.in1 (pyNext (.ref om) >>= _) _ _ _
    refine wpAny_bind (sint_pyNext (by exact hh) hM ho ?_ ?_ ?_)
    · intro p n h' t tk' hp hn he hM'
      have hS' := he S _ (Ne.symm h5) hS
      show wpAny _ A.in1 (updateSeq S (·.push (.str (Str.ofString (toString n)) t)) >>= _) _ _ _
      refine wpAny_bind ?_
      have oth : ∀ b o, b ≠ S → h'.get? b = some o → (h'.update S (Obj.mapSeq (·.push (.str (Str.ofString (toString n)) t)))).get? b = some o :=
        fun b o hb e => (Heap.get?_update_other _ _ (Ne.symm hb)).trans e
      refine wpAny_updateSeq hS' rfl (wpAny_pure ⟨plainId_quiet F.plain_extend_loop _, ?_⟩) (by rw [sv_size, sizeLine_eq]; omega) (by rw [Array.size_push, sv_size, sizeLine_eq]; omega)
      have hS₂ : ∃ c', (h'.update S (Obj.mapSeq (·.push (.str (Str.ofString (toString n)) t)))).get? S = some (listOf (strValues (qs ++ [(Str.ofString (toString n), t)])).toArray c') := by
        rw [← sv_snoc]
        exact ⟨_, Heap.get?_update_self (Obj.mapSeq (·.push (Value.str (Str.ofString (toString n)) t))) hS' rfl⟩
      obtain ⟨c', hS₂⟩ := hS₂
      refine ih (i + 1) _ _ (qs ++ [(Str.ofString (toString n), t)]) (ns ++ [n]) c' (by omega) hlt (hM'.apart h1 h2 h3 h4 h5 h6 oth) hS₂ (take_nums hns hp hn) ?_ ?_
      · rw [List.map_append, List.map_append, hqs]; rfl
      · exact fun b o hb hb' e => oth b o hb (he b o hb' (hkeep b o hb hb' e))
    · intro p h₁ h' tk' e hp hn he hx
      exact hE h₁ h' tk' e (fun b o hb hb' e => he b o hb' (hkeep b o hb hb' e)) hx ⟨p, List.mem_of_getElem? hp, hn⟩
    · intro h' hp
      rw [List.getElem?_eq_none_iff] at hp
      omega

theorem call_list_sint {om otup mp tup it l : Addr} {ps : List (Str × Tok)} {Q : Value → Shared → Prop} (hh : A.handled = none) (hM : SI s.heap om otup mp tup it l 0 (strValues ps).toArray) (ho : ∀ p ∈ ps, okl (sl p.1) ∧ p.1.length ≤ 9) (hlen : ps.length ≤ 100)
    (hQ : ∀ S h' tk (qs : List (Str × Tok)) (ns : List Int) c', (∀ b o, b ≠ it → s.heap.get? b = some o → h'.get? b = some o) → s.heap.get? S = none → h'.get? S = some (listOf (strValues qs).toArray c') → S ≠ it → ps.map NN = ns.map some → qs.map (fun q => sl q.1) = ns.map txt → Q (.ref S) { s with heap := h', toks := tk })
    (hE : ∀ h₁ h' tk e, (∀ b o, b ≠ it → s.heap.get? b = some o → h₁.get? b = some o) → Heap.NewExc h₁ h' e "ValueError" → (∃ p ∈ ps, NN p = none) → E (.ref e) { s with heap := h', toks := tk }) :
    wpAny (model prog w) A (call (.type "list") [.ref om]) Q E s := by
  have lt : ∀ b o, s.heap.get? b = some o → b ≠ s.heap.objs.size := fun b o e => Nat.ne_of_lt (Heap.lt_size e)
  have n1 : om ≠ s.heap.objs.size := lt _ _ hM.m
  have n2 : otup ≠ s.heap.objs.size := lt _ _ hM.t
  have n3 : mp ≠ s.heap.objs.size := lt _ _ hM.i.m
  have n4 : tup ≠ s.heap.objs.size := lt _ _ hM.i.t
  have n5 : it ≠ s.heap.objs.size := let ⟨o, ho, _⟩ := hM.i.i; lt _ _ ho
  have n6 : l ≠ s.heap.objs.size := let ⟨o, ho, _⟩ := hM.i.l; lt _ _ ho
  refine callType_codes (Q₁ := fun obj s₁ => obj = .ref s.heap.objs.size ∧ s₁ = { s with heap := s.heap.push { cls := .type "list", data := .seq #[] } }) F.called_list (F.typeCall_list_1 _) F.entry_list_init
    (code_list_new _ ⟨rfl, rfl⟩) fun obj s₁ h₁ => ?_
  obtain ⟨rfl, rfl⟩ := h₁
  have hS : (s.heap.push { cls := .type "list", data := .seq #[] }).get? s.heap.objs.size = some { cls := .type "list", data := .seq #[] } := Heap.get?_push_size _ rfl
  refine ⟨⟨_, hS, rfl⟩, F.args_list_init_2 _ _, ?_⟩
  show wpAny _ A.in1.in1 (do let old ← Builtin.List.listItems (.ref s.heap.objs.size); Builtin.List.listUpdate (.ref s.heap.objs.size) (fun _ => #[]); letGo old.toList.reverse; Builtin.List.listExtendWith (.ref s.heap.objs.size) (.ref om) .none) _ _ _
  refine wpAny_bind ?_
  unfold Builtin.List.listItems
  refine wpAny_bind (wpAny_seqItems hS rfl (wpAny_pure ?_))
  show wpAny _ A.in1.in1 (updateSeq s.heap.objs.size (fun _ => #[]) >>= fun _ => letGo (#[] : Array Value).toList.reverse >>= fun _ => Builtin.List.listExtendWith (.ref s.heap.objs.size) (.ref om) .none) _ _ _
  refine wpAny_bind (wpAny_updateSeq hS rfl ?_)
  have hS₂ := Heap.get?_update_self (Obj.mapSeq (fun _ => (#[] : Array Value))) hS rfl
  have oth : ∀ b o, b ≠ s.heap.objs.size → s.heap.get? b = some o → ((s.heap.push { cls := .type "list", data := .seq #[] }).update s.heap.objs.size (Obj.mapSeq (fun _ => (#[] : Array Value)))).get? b = some o :=
    fun b o hb e => (Heap.get?_update_other _ _ (Ne.symm hb)).trans (Heap.get?_push_of_some _ e)
  refine wpAny_bind (wpAny_letGo ?_)
  have hM₂ := hM.apart n1 n2 n3 n4 n5 n6 oth
  generalize (s.heap.push { cls := .type "list", data := .seq #[] }).update s.heap.objs.size (Obj.mapSeq (fun _ => (#[] : Array Value))) = H at hS₂ oth hM₂
  generalize hSz : s.heap.objs.size = S at *
  have hT : Shared.TypeIs { s with heap := H } (.ref om) "map" := ⟨_, hM₂.m, rfl⟩
  unfold Builtin.List.listExtendWith
  refine wpAny_bind (wpAny_typeOf hT ?_)
  have e1 : Builtin.List.listSameRef (.ref S) (.ref om) = false := by simp [Builtin.List.listSameRef, Ne.symm n1]
  have e2 : (Value.type "map" == Value.type "list") = false := by decide
  have e3 : (Value.type "map" == Value.type "tuple") = false := by decide
  simp only [e1, e2, e3, Bool.or_false, Bool.false_eq_true, if_false]
  refine wpAny_bind (map_pyIter hM₂.m ?_)
  refine wpAny_bind (wpAny_holding ?_)
  unfold Builtin.List.listLengthHint
  refine wpAny_bind (wpAny_specialOf hT map_no_len ?_)
  show wpAny _ A.in1.in1 (specialOf (Value.ref om) (Str.ofString "__length_hint__") >>= _) _ _ _
  refine wpAny_bind (wpAny_specialOf hT map_no_hint ?_)
  refine wpAny_pure ?_
  show wpAny _ A.in1.in1 (rule "list.extend.makes-room" >>= fun _ => Builtin.List.listTouch (.ref S) >>= fun _ =>
    again (.builtin "list.extend.loop" ⟨[.ref S, .ref om, .none], []⟩)) _ _ _
  refine wpAny_bind (wpAny_rule ?_)
  refine wpAny_bind ?_
  show wpAny _ A.in1.in1 (updateSeq S (·.push .none) >>= fun _ => updateSeq S (·.pop)) _ _ _
  refine wpAny_bind (wpAny_updateSeq hS₂ rfl ?_)
  have hS₃ := Heap.get?_update_self (Obj.mapSeq (·.push Value.none)) hS₂ rfl
  refine wpAny_updateSeq (hz := by seq_fits) hS₃ rfl ?_
  have hS₄ := Heap.get?_update_self (Obj.mapSeq (·.pop)) hS₃ rfl
  have oth₂ : ∀ b o, b ≠ S → H.get? b = some o → ((H.update S (Obj.mapSeq (·.push Value.none))).update S (Obj.mapSeq (·.pop))).get? b = some o :=
    fun b o hb e => (Heap.get?_update_other _ _ (Ne.symm hb)).trans ((Heap.get?_update_other _ _ (Ne.symm hb)).trans e)
  refine wpAny_pure ⟨plainId_quiet F.plain_extend_loop _, ?_⟩
  refine sint_loop (s := s) (hb := s.heap) (by exact hh) ho hlen n1 n2 n3 n4 n5 n6 ?_ ?_ ps.length 0 _ s.toks [] [] _ rfl (Nat.zero_le _) (hM₂.apart n1 n2 n3 n4 n5 n6 oth₂) hS₄ rfl rfl (fun b o hb _ e => oth₂ b o hb (oth b o hb e))
  · intro h' tk qs ns c' hk hl' hns hqs
    refine ⟨rfl, hQ S h' tk qs ns c' (fun b o hb e => hk b o (lt b o e) hb e) ?_ hl' (Ne.symm n5) hns hqs⟩
    rw [← hSz]
    exact Heap.get?_none_of_le (Nat.le_refl _)
  · intro h₁ h' tk e hk hx hp
    exact hE h₁ h' tk e (fun b o hb e => hk b o (lt b o e) hb e) hx hp

theorem sint_make {mp tup it l : Addr} {items : Array Value} {Q : Value → Shared → Prop} (hM : MI s.heap mp tup it l 0 items)
    (h : ∀ om otup h', SI h' om otup mp tup it l 0 items → (∀ b o, s.heap.get? b = some o → h'.get? b = some o) → Q (.ref om) { s with heap := h' }) :
    wpAny (model prog w) A (call (.type "map") [.type "str", .ref mp]) Q E s := by
  refine call_map (map_pyIter hM.m ?_)
  have k : ∀ b o, s.heap.get? b = some o → ((s.heap.push (tup1 (.ref mp))).push (mapObj s.heap.objs.size (.type "str"))).get? b = some o := fun b o e => Heap.get?_push_of_some _ (Heap.get?_push_of_some _ e)
  refine h _ s.heap.objs.size _ ⟨?_, ?_, hM.ext k⟩ k
  · have e : (s.heap.push (tup1 (.ref mp))).objs.size = s.heap.objs.size + 1 := Heap.size_push ..
    have e' : ((s.heap.push (tup1 (.ref mp))).push (mapObj s.heap.objs.size (.type "str"))).get? (s.heap.push (tup1 (.ref mp))).objs.size = some (mapObj s.heap.objs.size (.type "str")) := Heap.get?_push_size _ rfl
    rw [e] at e'
    exact e'
  · exact Heap.get?_push_of_some _ (Heap.get?_push_size _ rfl)
end
end Mine

end
/- part N4 -/
noncomputable section
open PySem PySem.W PyProof.Rows
namespace Mine
open PySem.Calls
local macro_rules | `(tactic| walk_at "s1") => `(tactic| first
  | (k_unfold; (try dsimp only))
  | ((with_reducible show wpAny _ _ _ _ _ _); (fail_if_success (with_reducible show wpAny _ _ (exec (Stmt.For _ _ _ _ _) _) _ _ _)); (fail_if_success (with_reducible show wpAny _ _ (call (Value.ref _) _) _ _ _)); (fail_if_success (with_reducible show wpAny _ _ (exec (Stmt.Try _ _ _ _ _) _) _ _ _)); (fail_if_success (with_reducible show wpAny _ _ (exec (Stmt.While _ _ _ _) _) _ _ _)); (fail_if_success (with_reducible show wpAny _ _ (eval (Expr.ListComp _ _ _ _) _) _ _ _)); (fail_if_success (with_reducible show wpAny _ _ (exec (Stmt.Assign _ (Expr.ListComp _ _ _ _) _) _) _ _ _)); walk1)
  | ((with_reducible show ite _ _ _); walk1)
  | (dsimp only; (with_reducible show wpAny _ _ _ _ _ _)))
local macro_rules | `(tactic| walk_at "s0") => `(tactic| ((fail_if_success (with_reducible show wpAny _ _ (exec (Stmt.If _ _ _ _) _) _ _ _)); walk_at "s1"))
local macro_rules | `(tactic| walk_at "enter") => `(tactic| (
  refine wpAny_call ?_
  k_dflt (refine' enter (by assumption) (by assumption) ?ho ?hcd ?hr ?hb ?hl ?_ ?c2 ?c3 ?c4 ?c5)
  (case ho => k_is)
  (case hcd => k_is)
  (case hr => omega)
  (case hb => first | exact BindsTo.of_eq rfl | exact binds_K (by assumption) rfl (by k_is) rfl rfl rfl)
  (case hl => exact locs rfl)
  (case c2 => rfl)
  (case c3 => rfl)
  (case c4 => rfl)
  (case c5 => decide)))
local macro_rules | `(tactic| walk_at "eval Name") => `(tactic| ((with_reducible show wpAny _ _ (eval (Expr.Name _ _) (compEnvC _ _ _ _)) _ _ _); k_dflt (first
  | (refine' comp_local ?n ?v ?_ ?k ?l ?d; (case k => rfl); (case l => rfl); (case d => decide); (case n => assumption); (case v => assumption))
  | (refine' comp_global ?X ?T ?e ?_ ?g ?k ?l ?d; (case g => rfl); (case k => rfl); (case l => rfl); (case d => decide); (case X => assumption); (case T => assumption); (case e => k_is))
  | (refine' comp_builtin ?X ?T ?e ?v ?n ?_ ?g ?b ?k ?l ?d; (case g => rfl); (case b => rfl); (case k => rfl); (case l => rfl); (case d => decide); (case X => assumption); (case T => assumption); (case e => k_is); (case v => boot_by_name); (case n => decide)))))
theorem pick_to (vs : List Value) (k : Nat) : (slicePick vs.toArray none (some (k : Int)) none).toList = vs.take k := by
  have e : sliceBounds none (some (k : Int)) none vs.toArray.size = (((0 : Nat) : Int), ((min k vs.toArray.size : Nat) : Int), 1) := by
    simp only [sliceBounds, Option.getD_none, show (1 : Int) > 0 by decide, if_true, if_neg (show ¬ ((k : Int) < 0) by omega)]
    congr 1
    congr 1
    omega
  rw [kmk_pick_nat _ e]
  show (vs.drop 0).take (min k vs.toArray.size - 0) = _
  rw [List.drop_zero, Nat.sub_zero, List.size_toArray, kmk_take_min]
theorem pick3 (vs : List Value) : (slicePick vs.toArray none (some 3) none).toList = vs.take 3 := pick_to vs 3
set_option maxRecDepth 100000 in
set_option maxHeartbeats 8000000 in
theorem norm_spec {w : World} {A : Around} {s : Shared} {Q E : Value → Shared → Prop} {mean : ExcName → Option Value} {mg mb : Str → Option Value} {base : Heap} {outer : List Env} (x y : Str) (tx ty : Tok)
  (hx : x.length + y.length ≤ 9) (hox : okl (sl x)) (hoy : okl (sl y)) (X : (hd.heap_39 w.params).In s.heap) (T : Top hd.view_39 LO mean mg mb s.heap) (K : Below A base outer s.heap) (XB : (hd.heap_39 w.params).In base) (TB : Top hd.view_39 LO mean mg mb base)
  (hroom : A.depth + 7 < recursionLimit) (hh : A.handled = none) 
  (hret : ∀ z t h' tk', Turned (outer.filterMap (·.frame)) s.heap h' → sl z = toldOf (piecesOf (sl x) (sl y)) → Q (.str z t) { s with heap := h', toks := tk' }) :
      wpAny (model PySem.Challenge.rw_mq0066_01.row.prog w) A (call (.ref 59) [.str x tx, .str y ty]) Q E s := by
  revert X; k_fill; intro X
  walk_at "enter"
  intro L' h₁ hL F N
  refine wpAny_mono (E := fun _ _ => False) ?_ (fun _ _ h => h) (fun _ _ h => h.elim)
  k_fold
  repeat' walk_at "s0"
  rename _ = Txt.split _ _ => hsp
  rename ∀ a ∈ List.map _ _, Str.length a ≤ Str.length x => hlen
  rename Heap.IsList _ _ _ => hIL
  rename Fr _ _ _ _ => F'
  rename News _ _ _ _ => N'
  rename List (Str × Tok) => ps
  have hps : ps.map (fun p => sl p.1) = dots (sl x) := by
    rw [← sl_split, ← hsp, List.map_map]; rfl
  have hpl : ps.length ≤ 10 := by
    have h1 := congrArg List.length hps
    have h2 := dots_weight (sl x)
    have h3 := len_sl x
    rw [List.length_map] at h1
    omega
  clear hlen hIL hsp
  refine wpAny_mono (Q := fun f s' => f = .next ∧ ∃ l ps ep m h' tk', s' = { s with heap := h', toks := tk' } ∧ Fr s.heap L' h' m ∧ News s.heap L' h' [(l, listOf (strValues ps).toArray ep)] ∧ m (Str.ofString "l") = some (.ref l) ∧ (ps.map fun p => sl p.1) = piecesOf (sl x) (sl y)) ?_ ?_ (fun _ _ h => h)
  · repeat' walk_at "s1"
    · rename Fr _ _ _ _ => F₂
      rename News _ _ _ _ => N₂
      rename (_ : Int) ≠ 0 => hy
      rw [sv_snoc] at N₂
      refine ⟨rfl, _, ps ++ [(y, ty)], _, _, _, _, rfl, F₂, N₂, rfl, ?_⟩
      have hy' : sl y ≠ [] := fun e => hy (by
        have := len_sl y
        rw [e] at this
        simp at this
        omega)
      rw [piecesOf, if_neg hy', List.map_append, hps]
      rfl
    · rename Fr _ _ _ _ => F₂
      rename News _ _ _ _ => N₂
      rename (_ : Int) = 0 => hy
      refine ⟨rfl, _, ps, _, _, _, _, rfl, F₂, N₂, rfl, ?_⟩
      have hy' : sl y = [] := List.eq_nil_of_length_eq_zero (by
        have := len_sl y
        omega)
      rw [piecesOf, if_pos hy', List.append_nil, hps]
  rintro _ _ ⟨rfl, l, ps, ep, m, h', tk', rfl, F', N', hml, hps⟩
  replace F' := fr_ats _ F' (ats1 hml)
  simp only [over] at F'
  dsimp only
  clear hpl
  have hpl : ps.length ≤ 11 := by
    have h1 := congrArg List.length hps
    have h2 := pieces_weight (sl x) (sl y)
    have h3 := len_sl x
    have h4 := len_sl y
    rw [List.length_map] at h1
    omega
  have hoks : ∀ p ∈ ps, okl (sl p.1) ∧ p.1.length ≤ 9 := fun p hp => by
    have : sl p.1 ∈ piecesOf (sl x) (sl y) := by rw [← hps]; exact List.mem_map_of_mem hp
    refine ⟨pieces_okl hox hoy _ this, ?_⟩
    have h1 := pieces_len this
    have h2 := len_sl x
    have h3 := len_sl y
    have h4 := len_sl p.1
    omega
  repeat' walk_at "s0"
  refine wpAny_mono (Q := fun f s' => f = .next ∧ ∃ g' S qs ep m h' tk', s' = { s with heap := h', toks := tk' } ∧ KtsTurn (outer.filterMap (·.frame)) s.heap g' ∧ (hd.heap_39 w.params).In g' ∧ Top hd.view_39 LO mean mg mb g' ∧ Fr g' L' h' m ∧ News g' L' h' [(S, listOf (strValues qs).toArray ep)] ∧ m (Str.ofString "strings") = some (.ref S) ∧ jn ((qs.map fun q => sl q.1).take 3) = toldOf (piecesOf (sl x) (sl y)) ∧ qs.length ≤ 11 ∧ (∀ q ∈ qs, q.1.length ≤ 100)) ?_ ?_ (fun _ _ h => h)
  · refine wpAny_Try_except ?_
    repeat' walk_at "s0"
    rename Fr _ _ _ _ => F₂
    rename News _ _ _ _ => N₂
    refine mint_make ⟨_, (N₂ _ (.head _)).1, rfl, _, rfl⟩ fun mp tup h₂ hM e₂ => ?_
    have F₃ := F₂.extBut (fun b o _ e => e₂ b o e) (Nat.le_refl _)
    have N₃ := N₂.extBut (fun b o _ e => e₂ b o e) (Nat.le_refl _)
    repeat' walk_at "s0"
    refine sint_make hM fun om otup h₃ hS e₃ => ?_
    clear F₃ N₃
    have F₃ := F₂.extBut (fun b o _ e => e₃ b o (e₂ b o e)) (Nat.le_refl _)
    have N₃ := N₂.extBut (fun b o _ e => e₃ b o (e₂ b o e)) (Nat.le_refl _)
    repeat' walk_at "s0"
    refine call_list_sint (by exact hh) hS hoks (by omega) ?_ ?_
    · intro S h₄ tk₄ qs ns c' k₄ hSn hSl hSi hns hqs
      have e₄ : Heap.ExtBut _ _ h₄ := fun b o hb e => k₄ b o hb (e₃ b o (e₂ b o e))
      have F₄ := F₂.extBut e₄ (Nat.le_refl _)
      have hfresh : s.heap.get? S = none := by
        cases q : s.heap.get? S with
        | none => rfl
        | some o => rw [F₃.keep _ _ q] at hSn; cases hSn
      have N₄ : News s.heap L' h₄ [(S, listOf (strValues qs).toArray c')] := News.more F₄ News.nil hSl (by intro es n h; cases h) hfresh
      clear F₂ N₂ F₃ N₃ e₄ hS hM k₄ e₃ e₂
      repeat' walk_at "s0"
      rename Fr _ _ _ _ => F₅
      rename News _ _ _ _ => N₅
      have hall : allNums (piecesOf (sl x) (sl y)) = some ns := allNums_of (by rw [← hps, List.map_map]; exact hns)
      refine ⟨rfl, s.heap, S, qs, c', _, _, _, rfl, KtsTurn.refl, X, T, F₅, N₅, rfl, ?_, ?_, ?_⟩
      · rw [hqs, toldOf, hall]
      · have e1 := congrArg List.length hqs
        have e2 := congrArg List.length hns
        simp only [List.length_map] at e1 e2
        omega
      · intro q hq
        have h1 : sl q.1 ∈ ns.map txt := by rw [← hqs]; exact List.mem_map_of_mem hq
        obtain ⟨n, hn, e⟩ := List.mem_map.mp h1
        have h2 := txt_len (allNums_bound hall (fun p hp => by
          have h1 := pieces_len hp
          have h2 := len_sl x
          have h3 := len_sl y
          omega) n hn)
        rw [e] at h2
        have h3 := len_sl q.1
        omega
    · intro h₄ h₅ tk₅ e k₄ hx₄ hbad
      have e₄ : Heap.ExtBut _ _ h₄ := fun b o hb e => k₄ b o hb (e₃ b o (e₂ b o e))
      have F₄ := F₂.extBut e₄ (Nat.le_refl _)
      have N₄ := N₂.extBut e₄ (Nat.le_refl _)
      refine note_own K hx₄ F₄ (fun B a0 h₂ hH hs₂ hBG => ?_) rfl
      k_dflt (refine' take_clause (KF := hd.heap_39 w.params) hH F₄ K hs₂ XB TB hBG ?ex ?hv ?hn ?h1 ?h2 ?h3 ?_ ?k1 ?k2 ?k3 ?k4)
      (case ex => k_is)
      (case hv => boot_by_name)
      (case hn => decide)
      (case h1 => exact isSubtype_of_subB (by decide +kernel))
      (case h2 => exact isSubtype_of_subB (by decide +kernel))
      (case h3 => exact isSubtype_of_subB (by decide +kernel))
      (case k1 => rfl)
      (case k2 => rfl)
      (case k3 => decide)
      (case k4 => exact PassesOwnAt.never)
      intro h₆ g' T' F₆ hB₆ K₆ X₆ P₆
      have N₆ : News g' L' h₆ [(l, listOf (strValues ps).toArray ep)] := by
        intro q hq
        obtain rfl := List.mem_singleton.mp hq
        obtain ⟨n1, n2, n3⟩ := N₄ _ (.head _)
        refine ⟨hB₆ _ _ (hBG _ _ n1 fun hm => ?_), n2, T'.none_ _ n3⟩
        rcases kts_mem hm with z | z
        · exact n2 z
        · obtain ⟨o, ho, _⟩ := (K.frames.mem z).2
          rw [n3] at ho
          cases ho
      clear F₂ N₂ F₃ N₃ F₄ N₄ X T
      repeat' walk_at "s0"
      rename Fr _ _ _ _ => F₇
      rename News _ _ _ _ => N₇
      have hall : allNums (piecesOf (sl x) (sl y)) = none := allNums_no (by
        obtain ⟨p, hp, hn⟩ := hbad
        exact ⟨sl p.1, by rw [← hps]; exact List.mem_map_of_mem hp, hn⟩)
      refine ⟨rfl, g', l, ps, ep, _, _, _, rfl, T', X₆, P₆, F₇, N₇, rfl, ?_, hpl, ?_⟩
      · rw [hps, toldOf, hall]
      · exact fun q hq => Nat.le_trans (hoks q hq).2 (by decide)
  rintro _ _ ⟨rfl, g', S, qs, ep', m', h₂, tk₂, rfl, T', X', P', F₂, N₂, hmS, htold, hql, hqb⟩
  clear F' N' X T
  replace F₂ := fr_ats _ F₂ (ats1 hmS)
  simp only [over] at F₂
  dsimp only
  repeat' walk_at "s0"
  k_dflt (refine' kmk_slice_lit (s := ⟨h₂, s.gens, s.drawn, _, s.os⟩) (zs := (strValues qs).take 3) ?zF ?zN ?zl ?zp ?zq ?ze ?_ ?zs ?zt ?zz; (case zF => k_asm); (case zN => k_asm); (case zl => kmk_list); (case zp => kmk_part); (case zq => kmk_part); (case ze => exact pick3 _); (case zs => with_unfolding_all rfl); (case zt => kmk_pure); (case zz => rw [sv_size, sizeLine_eq]; omega))
  intro D' h' F' N' l1
  repeat' walk_at "s0"
  have et : (strValues qs).take 3 = strValues (qs.take 3) := by simp [strValues, List.map_take]
  rw [et] at N'
  have hj : sl (Txt.join (Str.ofString ".") ((qs.take 3).map (·.1))) = toldOf (piecesOf (sl x) (sl y)) := by
    rw [sl_tjoin, ← htold, List.map_map, ← List.map_take]; rfl
  refine SC.join (l := qs.take 3) ⟨_, (N' _ (.head _)).1, rfl, _, rfl⟩ rfl (joinOk_of ?_) ?_
  · have e1 : (Str.ofString ".").length = 1 := by decide +kernel
    have h1 : (((qs.take 3).map (·.1)).map (·.length)).sum ≤ 3 * 100 := by
      have : ∀ l : List (Str × Tok), (∀ q ∈ l, q.1.length ≤ 100) → ((l.map (·.1)).map (·.length)).sum ≤ l.length * 100 := by
        intro l
        induction l with
        | nil => intro _; exact Nat.le_refl _
        | cons q r ih =>
          intro h
          have h1 := h q (.head _)
          have h2 := ih fun z hz => h z (.tail _ hz)
          simp only [List.map_cons, List.sum_cons, List.length_cons]
          omega
      have h2 := this (qs.take 3) fun q hq => hqb q (mem_take hq)
      rw [List.length_take] at h2
      omega
    rw [e1, List.length_map, List.length_take]
    omega
  intro t' k'
  generalize Txt.join (Str.ofString ".") ((qs.take 3).map (·.1)) = z at hj
  repeat' walk_at "s0"
  rename Fr _ _ _ _ => F₉
  exact hret _ _ _ _ (Turned.of_turn T' F₉.keep) hj
end Mine

end
/- part R1 -/
noncomputable section
open PySem
namespace Mine
open PySem.Sre
set_option maxRecDepth 100000

/-- the pattern's code -/
def reC : Array Nat := #[14, 4, 0, 1, 4294967295, 17, 0, 7, 14, 24, 10, 1, 4294967295, 13, 5, 22, 48, 57, 0, 1, 15, 17, 15, 13, 11, 9, 0, 26624, 2147483648, 0, 0, 0, 0, 0, 0, 15, 2, 0, 17, 1, 1]

theorem acc_dig (c : Nat) (sn : Seen) : ∃ sn', accepts reC 13 c sn = .ok (decide (48 ≤ c ∧ c ≤ 57), sn') := by
  have e : accepts reC 13 c sn = (if (48 ≤ c && c ≤ 57) = true then .ok (true, sn.add 22) else .ok (false, (sn.add 22).add 0)) := rfl
  rw [e]
  by_cases h : 48 ≤ c ∧ c ≤ 57
  · rw [if_pos (by simpa using h), decide_eq_true h]
    exact ⟨_, rfl⟩
  · rw [if_neg (by simpa using h), decide_eq_false h]
    exact ⟨_, rfl⟩
theorem acc_sep (c : Nat) (hc : c = 45 ∨ c = 46) (sn : Seen) : ∃ sn', accepts reC 23 c sn = .ok (true, sn') := by
  rcases hc with rfl | rfl
  · exact ⟨_, rfl⟩
  · exact ⟨_, rfl⟩

theorem run_dig (text : Array Nat) : ∀ (k n p f : Nat) (sn : Seen), (∀ i, i < n → 48 ≤ text.getD (p + i) 0 ∧ text.getD (p + i) 0 ≤ 57) → (k = 0 ∨ ¬ (48 ≤ text.getD (p + n) 0 ∧ text.getD (p + n) 0 ≤ 57)) →
    ∃ sn', Sre.run reC text 13 (n + k) p f sn = .ok (f + n, sn')
  | k, 0, p, f, sn, _, hk => by
    rw [Nat.zero_add]
    cases k with
    | zero => exact ⟨sn, rfl⟩
    | succ k =>
      have hd : ¬ (48 ≤ text.getD p 0 ∧ text.getD p 0 ≤ 57) := by simpa using hk
      obtain ⟨sn', h⟩ := acc_dig (text.getD p 0) sn
      refine ⟨sn', ?_⟩
      unfold Sre.run
      rw [h, decide_eq_false hd]
      rfl
  | k, n + 1, p, f, sn, hd, hk => by
    obtain ⟨sn', h⟩ := acc_dig (text.getD p 0) sn
    have h0 : 48 ≤ text.getD p 0 ∧ text.getD p 0 ≤ 57 := hd 0 (Nat.succ_pos _)
    obtain ⟨sn'', h2⟩ := run_dig text k n (p + 1) (f + 1) sn' (fun i hi => by
      have := hd (i + 1) (by omega)
      rwa [show p + (i + 1) = p + 1 + i by omega] at this) (by rwa [show p + 1 + n = p + (n + 1) by omega])
    refine ⟨sn'', ?_⟩
    rw [show n + 1 + k = (n + k) + 1 by omega]
    unfold Sre.run
    rw [h, decide_eq_true h0]
    show Sre.run reC text 13 (n + k) (p + 1) (f + 1) sn' = _
    rw [h2, show f + 1 + n = f + (n + 1) by omega]

theorem runFor_add (a b : Nat) (m : M) : M.runFor (a + b) m = M.runFor b (M.runFor a m) := by
  induction a generalizing m with
  | zero => rw [Nat.zero_add]; rfl
  | succ a ih =>
    rw [show a + 1 + b = (a + b) + 1 by omega]
    by_cases h : m.outcome.isSome = true
    · have e : ∀ n (m : M), m.outcome.isSome = true → M.runFor n m = m := by
        intro n m h
        cases n with
        | zero => rfl
        | succ n => unfold M.runFor; rw [if_pos h]
      rw [e _ _ h, e (a + 1) _ h, e _ _ h]
    · have e1 : M.runFor (a + b + 1) m = M.runFor (a + b) m.step := by
        conv => lhs; unfold M.runFor
        rw [if_neg h]
      have e2 : M.runFor (a + 1) m = M.runFor a m.step := by
        conv => lhs; unfold M.runFor
        rw [if_neg h]
      rw [e1, e2, ih]
theorem runFor_done (n : Nat) (m : M) (h : m.outcome.isSome = true) : M.runFor n m = m := by
  cases n with
  | zero => rfl
  | succ n => unfold M.runFor; rw [if_pos h]
theorem runFor_step (n : Nat) (m : M) (h : m.outcome = none) : M.runFor (n + 1) m = M.runFor n m.step := by
  conv => lhs; unfold M.runFor
  rw [if_neg (by rw [h]; exact Bool.false_ne_true)]
end Mine

end
/- part R2 -/
noncomputable section
open PySem
namespace Mine
open PySem.Sre
set_option maxRecDepth 100000

abbrev mm (text : Array Nat) (lim s pc pos handed : Nat) (marks : Array (Option Nat)) (lastmark lastindex : Int) (frames : List Sre.Frame) (weight : Nat) (answer : Option Bool) (seen : Seen) (outcome : Option Sre.Outcome) : M :=
  ⟨reC, text, lim, s, lim, false, false, pc, pos, handed, true, marks, lastmark, lastindex, #[], none, frames, weight, answer, seen, outcome⟩
abbrev fS (s : Nat) : Sre.Frame := { wait := .nextStart, pc := 5, pos := s, outermost := true }
abbrev fB (s : Nat) : Sre.Frame := { wait := .nextBranch, pc := 8, pos := s, outermost := true, kept := { lastmark := 0, lastindex := -1, whole := false, marks := #[] } }
abbrev fG (p n : Nat) : Sre.Frame := { wait := .giveBack, pc := 9, pos := p, outermost := true, count := n, kept := { lastmark := 0, lastindex := -1, whole := false, marks := #[] } }
abbrev fC (s : Nat) : Sre.Frame := { wait := .nextBranch, pc := 22, pos := s, outermost := true, kept := { lastmark := 0, lastindex := -1, whole := false, marks := #[] } }

theorem search_start {text : Array Nat} {s lim : Nat} (h : s < lim) : ∃ sn, Sre.forSearch reC text 1 s lim false = mm text lim s 5 s s #[none, none] (-1) (-1) [fS s] 1 none sn none := by
  have e : Sre.forSearch reC text 1 s lim false = (if (decide (s > lim) || decide (lim - s < 1)) = true then _ else mm text lim s 5 s s #[none, none] (-1) (-1) [fS s] 1 none (({} : Seen).add 14) none) := rfl
  refine ⟨({} : Seen).add 14, ?_⟩
  rw [e, if_neg]
  simp
  omega
theorem search_end {text : Array Nat} {lim : Nat} : ∃ m, Sre.forSearch reC text 1 lim lim false = m ∧ (M.runFor 12 m).outcome = some .failed := by
  refine ⟨_, rfl, ?_⟩
  have e : Sre.forSearch reC text 1 lim lim false = (if (decide (lim > lim) || decide (lim - lim < 1)) = true then (⟨reC, text, lim, lim, 0, false, false, 5, lim, lim, true, #[none, none], -1, -1, #[], none, [], 0, some false, ({} : Seen).add 14, none⟩ : M) else mm text lim lim 5 lim lim #[none, none] (-1) (-1) [fS lim] 1 none (({} : Seen).add 14) none) := rfl
  rw [e, if_pos (by simp)]
  rfl

theorem to_repeat {text : Array Nat} {s lim : Nat} {sn : Seen} : ∃ sn', M.runFor 2 (mm text lim s 5 s s #[none, none] (-1) (-1) [fS s] 1 none sn none) = mm text lim s 9 s s #[some s, none] 0 (-1) [fB s, fS s] 2 none sn' none := ⟨_, rfl⟩

theorem at_repeat {text : Array Nat} {s lim : Nat} {sn : Seen} (h : s < lim) (n : Nat) (hr : ∀ sn, ∃ sn', Sre.run reC text 13 (min 4294967295 (lim - s)) s 0 sn = .ok (n, sn')) :
    ∃ sn', M.step (mm text lim s 9 s s #[some s, none] 0 (-1) [fB s, fS s] 2 none sn none) =
      if n < 1 then mm text lim s 9 s s #[some s, none] 0 (-1) [fB s, fS s] 2 (some false) sn' none
      else mm text lim s 20 (s + n) (s + n) #[some s, none] 0 (-1) [fG (s + n) n, fB s, fS s] 3 none sn' none := by
  obtain ⟨sn', hr⟩ := hr ((sn.add 24).add 13)
  refine ⟨sn', ?_⟩
  have e : M.step (mm text lim s 9 s s #[some s, none] 0 (-1) [fB s, fS s] 2 none sn none) =
      (if ((1 : Nat) : Int) > ((lim : Int) - s) then mm text lim s 9 s s #[some s, none] 0 (-1) [fB s, fS s] 2 (some false) (sn.add 24) none else
       match Sre.run reC text 13 (min 4294967295 ((lim : Int) - s).toNat) s 0 ((sn.add 24).add 13) with
       | .error why => { mm text lim s 9 s s #[some s, none] 0 (-1) [fB s, fS s] 2 none (sn.add 24) none with outcome := some (.stuck why) }
       | .ok (n, seen) => if n < 1 then mm text lim s 9 s s #[some s, none] 0 (-1) [fB s, fS s] 2 (some false) seen none
          else mm text lim s 20 (s + n) (s + n) #[some s, none] 0 (-1) [fG (s + n) n, fB s, fS s] 3 none seen none) := rfl
  rw [e, if_neg (by omega), show ((lim : Int) - s).toNat = lim - s by omega, hr]

theorem jump20 {text : Array Nat} {s p lim n : Nat} {sn : Seen} : ∃ sn', M.step (mm text lim s 20 p p #[some s, none] 0 (-1) [fG p n, fB s, fS s] 3 none sn none) = mm text lim s 38 p p #[some s, none] 0 (-1) [fG p n, fB s, fS s] 3 none sn' none := ⟨_, rfl⟩
theorem jump35 {text : Array Nat} {s p lim : Nat} {sn : Seen} : ∃ sn', M.step (mm text lim s 35 p s #[some s, none] 0 (-1) [fC s, fS s] 2 none sn none) = mm text lim s 38 p s #[some s, none] 0 (-1) [fC s, fS s] 2 none sn' none := ⟨_, rfl⟩
theorem mark38 {text : Array Nat} {s p q lim wt : Nat} {fs : List Sre.Frame} {sn : Seen} : ∃ sn', M.step (mm text lim s 38 p q #[some s, none] 0 (-1) fs wt none sn none) = mm text lim s 40 p q #[some s, some p] 1 1 fs wt none sn' none := by
  refine ⟨sn.add 17, ?_⟩
  have e : M.step (mm text lim s 38 p q #[some s, none] 0 (-1) fs wt none sn none) = M.mark (mm text lim s 38 p q #[some s, none] 0 (-1) fs wt none (sn.add 17) none) 1 := rfl
  rw [e]
  unfold M.mark
  dsimp only
  rw [if_pos (by decide)]
  rfl
theorem succ40 {text : Array Nat} {s p q lim wt : Nat} {mk : Array (Option Nat)} {fs : List Sre.Frame} {sn : Seen} : ∃ sn', M.step (mm text lim s 40 p q mk 1 1 fs wt none sn none) = mm text lim s 40 p p mk 1 1 fs wt (some true) sn' none := ⟨_, rfl⟩
theorem backG {text : Array Nat} {s p q lim n pc : Nat} {mk : Array (Option Nat)} {sn : Seen} : M.step (mm text lim s pc p q mk 1 1 [fG p n, fB s, fS s] 3 (some true) sn none) = mm text lim s 9 p q mk 1 1 [fB s, fS s] 2 (some true) sn none := rfl
theorem backB {text : Array Nat} {s p q lim pc : Nat} {mk : Array (Option Nat)} {sn : Seen} : M.step (mm text lim s pc p q mk 1 1 [fB s, fS s] 2 (some true) sn none) = mm text lim s 8 s q mk 1 1 [fS s] 1 (some true) sn none := rfl
theorem backC {text : Array Nat} {s p q lim pc : Nat} {mk : Array (Option Nat)} {sn : Seen} : M.step (mm text lim s pc p q mk 1 1 [fC s, fS s] 2 (some true) sn none) = mm text lim s 22 s q mk 1 1 [fS s] 1 (some true) sn none := rfl
theorem backS {text : Array Nat} {s p q lim pc : Nat} {mk : Array (Option Nat)} {sn : Seen} : M.step (mm text lim s pc p q mk 1 1 [fS s] 1 (some true) sn none) = mm text lim s 5 s q mk 1 1 [] 0 (some true) sn none := rfl
theorem back0 {text : Array Nat} {s p q lim pc : Nat} {mk : Array (Option Nat)} {sn : Seen} : M.step (mm text lim s pc p q mk 1 1 [] 0 (some true) sn none) = mm text lim s pc p q mk 1 1 [] 0 (some true) sn (some .matched) := rfl
theorem after_num {text : Array Nat} {s p lim n : Nat} {sn : Seen} : ∃ m, M.runFor 9 (mm text lim s 20 p p #[some s, none] 0 (-1) [fG p n, fB s, fS s] 3 none sn none) = m ∧ m.outcome = some .matched ∧ m.start = s ∧ m.handed = p ∧ m.lastmark = 1 ∧ m.marks = #[some s, some p] := by
  obtain ⟨s1, e1⟩ := jump20 (text := text) (s := s) (p := p) (lim := lim) (n := n) (sn := sn)
  obtain ⟨s2, e2⟩ := mark38 (text := text) (s := s) (p := p) (q := p) (lim := lim) (wt := 3) (fs := [fG p n, fB s, fS s]) (sn := s1)
  obtain ⟨s3, e3⟩ := succ40 (text := text) (s := s) (p := p) (q := p) (lim := lim) (wt := 3) (mk := #[some s, some p]) (fs := [fG p n, fB s, fS s]) (sn := s2)
  refine ⟨mm text lim s 5 s p #[some s, some p] 1 1 [] 0 (some true) s3 (some .matched), ?_, rfl, rfl, rfl, rfl, rfl⟩
  rw [runFor_step 8 _ rfl, e1, runFor_step 7 _ rfl, e2, runFor_step 6 _ rfl, e3, runFor_step 5 _ rfl, backG, runFor_step 4 _ rfl, backB, runFor_step 3 _ rfl, backS, runFor_step 2 _ rfl, back0, runFor_done 2 _ rfl]

theorem to_sep {text : Array Nat} {s lim : Nat} {sn : Seen} : ∃ sn', M.runFor 1 (mm text lim s 9 s s #[some s, none] 0 (-1) [fB s, fS s] 2 (some false) sn none) = mm text lim s 23 s s #[some s, none] 0 (-1) [fC s, fS s] 2 none sn' none := ⟨_, rfl⟩

theorem at_sep {text : Array Nat} {s lim : Nat} {sn : Seen} (h : s < lim) (hc : text.getD s 0 = 45 ∨ text.getD s 0 = 46) :
    ∃ sn', M.step (mm text lim s 23 s s #[some s, none] 0 (-1) [fC s, fS s] 2 none sn none) = mm text lim s 35 (s + 1) s #[some s, none] 0 (-1) [fC s, fS s] 2 none sn' none := by
  obtain ⟨sn', ha⟩ := acc_sep (text.getD s 0) hc (sn.add 13)
  refine ⟨sn', ?_⟩
  have e : M.step (mm text lim s 23 s s #[some s, none] 0 (-1) [fC s, fS s] 2 none sn none) =
      (if s ≥ lim then mm text lim s 23 s s #[some s, none] 0 (-1) [fC s, fS s] 2 (some false) (sn.add 13) none else
       match accepts reC 23 (text.getD s 0) (sn.add 13) with
       | .error why => { mm text lim s 23 s s #[some s, none] 0 (-1) [fC s, fS s] 2 none (sn.add 13) none with outcome := some (.stuck why) }
       | .ok (false, seen) => mm text lim s 23 s s #[some s, none] 0 (-1) [fC s, fS s] 2 (some false) seen none
       | .ok (true, seen) => mm text lim s 35 (s + 1) s #[some s, none] 0 (-1) [fC s, fS s] 2 none seen none) := rfl
  rw [e, if_neg (by omega), ha]
theorem after_sep {text : Array Nat} {s p lim : Nat} {sn : Seen} : ∃ m, M.runFor 7 (mm text lim s 35 p s #[some s, none] 0 (-1) [fC s, fS s] 2 none sn none) = m ∧ m.outcome = some .matched ∧ m.start = s ∧ m.handed = p ∧ m.lastmark = 1 ∧ m.marks = #[some s, some p] := by
  obtain ⟨s1, e1⟩ := jump35 (text := text) (s := s) (p := p) (lim := lim) (sn := sn)
  obtain ⟨s2, e2⟩ := mark38 (text := text) (s := s) (p := p) (q := s) (lim := lim) (wt := 2) (fs := [fC s, fS s]) (sn := s1)
  obtain ⟨s3, e3⟩ := succ40 (text := text) (s := s) (p := p) (q := s) (lim := lim) (wt := 2) (mk := #[some s, some p]) (fs := [fC s, fS s]) (sn := s2)
  refine ⟨mm text lim s 5 s p #[some s, some p] 1 1 [] 0 (some true) s3 (some .matched), ?_, rfl, rfl, rfl, rfl, rfl⟩
  rw [runFor_step 6 _ rfl, e1, runFor_step 5 _ rfl, e2, runFor_step 4 _ rfl, e3, runFor_step 3 _ rfl, backC, runFor_step 2 _ rfl, backS, runFor_step 1 _ rfl, back0, runFor_done 1 _ rfl]

/-- a found piece from s to e -/
structure FoundAt (m : M) (s e : Nat) : Prop where
  out : m.outcome = some .matched
  start : m.start = s
  handed : m.handed = e
  last : m.lastmark = 1
  marks : m.marks = #[some s, some e]

theorem find_num {text : Array Nat} {s n : Nat} (hn : 1 ≤ n) (hl : s + n ≤ text.size) (hb : text.size < 4294967295) (hd : ∀ i, i < n → 48 ≤ text.getD (s + i) 0 ∧ text.getD (s + i) 0 ≤ 57) (he : s + n = text.size ∨ ¬ (48 ≤ text.getD (s + n) 0 ∧ text.getD (s + n) 0 ≤ 57)) :
    FoundAt (M.runFor 12 (Sre.forSearch reC text 1 s text.size false)) s (s + n) := by
  obtain ⟨sn, e0⟩ := search_start (text := text) (s := s) (lim := text.size) (by omega)
  obtain ⟨sn1, e1⟩ := to_repeat (text := text) (s := s) (lim := text.size) (sn := sn)
  obtain ⟨sn2, e2⟩ := at_repeat (text := text) (s := s) (lim := text.size) (sn := sn1) (by omega) n (fun sn => by
    rw [Nat.min_eq_right (by omega)]
    obtain ⟨sn', h⟩ := run_dig text (text.size - s - n) n s 0 sn hd (by omega)
    refine ⟨sn', ?_⟩
    rw [show n + (text.size - s - n) = text.size - s by omega] at h
    rw [h, Nat.zero_add])
  rw [if_neg (by omega)] at e2
  obtain ⟨m, e3, h1, h2, h3, h4, h5⟩ := after_num (text := text) (s := s) (p := s + n) (lim := text.size) (n := n) (sn := sn2)
  have : M.runFor 12 (Sre.forSearch reC text 1 s text.size false) = m := by
    rw [e0, show (12 : Nat) = 2 + 10 from rfl, runFor_add, e1, runFor_step 9 _ rfl, e2, e3]
  rw [this]
  exact ⟨h1, h2, h3, h4, h5⟩

theorem find_sep {text : Array Nat} {s : Nat} (hl : s < text.size) (hb : text.size < 4294967295) (hc : text.getD s 0 = 45 ∨ text.getD s 0 = 46) :
    FoundAt (M.runFor 12 (Sre.forSearch reC text 1 s text.size false)) s (s + 1) := by
  obtain ⟨sn, e0⟩ := search_start (text := text) (s := s) (lim := text.size) (by omega)
  obtain ⟨sn1, e1⟩ := to_repeat (text := text) (s := s) (lim := text.size) (sn := sn)
  obtain ⟨sn2, e2⟩ := at_repeat (text := text) (s := s) (lim := text.size) (sn := sn1) (by omega) 0 (fun sn => by
    rw [Nat.min_eq_right (by omega)]
    obtain ⟨sn', h⟩ := run_dig text (text.size - s) 0 s 0 sn (fun i hi => absurd hi (Nat.not_lt_zero _)) (.inr (by rw [Nat.add_zero]; omega))
    refine ⟨sn', ?_⟩
    rw [Nat.zero_add] at h
    rw [h])
  rw [if_pos (by omega)] at e2
  obtain ⟨sn3, e3⟩ := to_sep (text := text) (s := s) (lim := text.size) (sn := sn2)
  obtain ⟨sn4, e4⟩ := at_sep (text := text) (s := s) (lim := text.size) (sn := sn3) hl hc
  obtain ⟨m, e5, h1, h2, h3, h4, h5⟩ := after_sep (text := text) (s := s) (p := s + 1) (lim := text.size) (sn := sn4)
  have : M.runFor 12 (Sre.forSearch reC text 1 s text.size false) = m := by
    rw [e0, show (12 : Nat) = 2 + 10 from rfl, runFor_add, e1, runFor_step 9 _ rfl, e2, show (9 : Nat) = 1 + 8 from rfl, runFor_add, e3, runFor_step 7 _ rfl, e4, e5]
  rw [this]
  exact ⟨h1, h2, h3, h4, h5⟩
end Mine

end
/- part R3 -/
noncomputable section
open PySem PySem.W PyProof.Rows
namespace Mine
open PySem.Calls PySem.Builtin.Re
open PySem.Sre (M)
set_option maxRecDepth 100000

inductive Toks : List Nat → List (List Nat) → Prop
  | nil : Toks [] []
  | sep {c : Nat} {r : List Nat} {ts : List (List Nat)} (hc : c = 45 ∨ c = 46) (h : Toks r ts) : Toks (c :: r) ([c] :: ts)
  | num {ds r : List Nat} {ts : List (List Nat)} (hn : ds ≠ []) (hd : digs ds) (hr : ∀ c r', r = c :: r' → ¬ (48 ≤ c ∧ c ≤ 57)) (h : Toks r ts) : Toks (ds ++ r) (ds :: ts)

theorem toks_len {l : List Nat} {ts : List (List Nat)} (h : Toks l ts) : ts.length ≤ l.length := by
  induction h with
  | nil => exact Nat.le_refl _
  | sep _ _ ih => simp only [List.length_cons]; omega
  | num hn _ _ _ ih =>
    have := List.length_pos_iff.mpr hn
    rw [List.length_append, List.length_cons]; omega
theorem flat2_len : ∀ (ts : List (List Nat)), (ts.flatMap fun t => [[], t]).length = 2 * ts.length
  | [] => rfl
  | t :: r => by
    rw [List.flatMap_cons, List.length_append, flat2_len r, List.length_cons]
    simp only [List.length_cons, List.length_nil]
    omega
def patObj : Obj := { cls := .type "re.Pattern", data := .fields #[.str (Str.ofString "([0-9]+|[._+-])") 296, .int 32 340, .int 1 0, .none, .none, .ref 42, .int 0 0] }
def codeObj : Obj := { cls := .type "tuple", data := .seq (reC.map fun (n : Nat) => Value.int (n : Int) 0) }

section
variable {prog : Program} {w : World} {A : Around} {E : Value → Shared → Prop} {s : Shared}

theorem drive : ∀ (k turns : Nat) (m : M) {Q : M → Shared → Prop}, k < turns → (m.runFor (4 * (k + 1))).outcome.isSome = true → Q (m.runFor (4 * (k + 1))) s → wpAny (model prog w) A (reDrive turns m) Q E s
  | k, 0, m, Q, h, _, _ => absurd h (Nat.not_lt_zero _)
  | k, turns + 1, m, Q, h, ho, hQ => by
    unfold reDrive
    dsimp only
    by_cases h4 : (m.runFor reTurnSteps).outcome.isSome = true
    · rw [if_pos h4]
      refine wpAny_pure ?_
      have e : m.runFor (4 * (k + 1)) = m.runFor reTurnSteps := by
        rw [show 4 * (k + 1) = reTurnSteps + 4 * k by show 4 * (k + 1) = 4 + 4 * k; omega, runFor_add, runFor_done _ _ h4]
      rw [e] at hQ
      exact hQ
    · rw [if_neg h4]
      refine wpAny_bind (wpAny_rule ?_)
      cases k with
      | zero => exact absurd ho h4
      | succ k =>
        have e : m.runFor (4 * (k + 1 + 1)) = (m.runFor reTurnSteps).runFor (4 * (k + 1)) := by
          rw [show 4 * (k + 1 + 1) = reTurnSteps + 4 * (k + 1) by show 4 * (k + 1 + 1) = 4 + 4 * (k + 1); omega, runFor_add]
        rw [e] at ho hQ
        exact drive k turns _ (by omega) ho hQ

theorem run_to_end (m : M) {Q : Option M → Shared → Prop} (ho : (m.runFor 12).outcome.isSome = true)
    (h : wpAny (model prog w) A (match (m.runFor 12).outcome with | some .matched => pure (some (m.runFor 12)) | some .failed => pure none | some (.stuck why) => unsupported s!"_sre:{why}" | none => unsupported "internal:sre:no-outcome") Q E s) :
    wpAny (model prog w) A (reRunToEnd m) Q E s := by
  unfold reRunToEnd
  refine wpAny_bind (drive 2 (2 ^ 64) m (by decide) ho ?_)
  refine wpAny_bind (wpAny_forIn_list _ (fun _ _ s' => s' = s) _ ?_ ?_ _ _ rfl)
  · rintro x rest b s' rfl
    by_cases hx : (m.runFor 12).seen.has x = true
    · rw [show (m.runFor (4 * (2 + 1))) = m.runFor 12 from rfl, if_pos hx]
      exact wpAny_bind (wpAny_rule (wpAny_pure rfl))
    · rw [show (m.runFor (4 * (2 + 1))) = m.runFor 12 from rfl, if_neg hx]
      exact wpAny_pure rfl
  · rintro b s' rfl
    exact h

theorem next_found {t : ReTarget} {st e : Nat} {Q : Option M → Shared → Prop} (hf : FoundAt (M.runFor 12 (Sre.forSearch t.code t.text t.groups st t.lim false)) st e)
    (h : ∀ m, FoundAt m st e → Q (some m) s) : wpAny (model prog w) A (reNextFound t st false) Q E s := by
  unfold reNextFound
  refine run_to_end _ (by rw [hf.out]; rfl) ?_
  rw [hf.out]
  exact wpAny_pure (h _ hf)
theorem next_none {t : ReTarget} {st : Nat} {Q : Option M → Shared → Prop} (hf : (M.runFor 12 (Sre.forSearch t.code t.text t.groups st t.lim false)).outcome = some .failed)
    (h : Q none s) : wpAny (model prog w) A (reNextFound t st false) Q E s := by
  unfold reNextFound
  refine run_to_end _ (by rw [hf]; rfl) ?_
  rw [hf]
  exact wpAny_pure h

theorem named_split (v : Value) : reNamed "re.Pattern.split" "split" ["string", "maxsplit"] 1 [v] [] = pure [some v, none] := by rfl
theorem raw_code : Array.map (fun (x : Int) => x.toNat) (Array.map reRawOf (reC.map fun (n : Nat) => Value.int (n : Int) 0)) = reC := by decide +kernel
theorem whole_target {a : Addr} {x : Str} {tx : Tok} {Q : ReTarget → Shared → Prop} (hp : s.heap.get? a = some patObj) (hc : s.heap.get? 42 = some codeObj)
    (h : Q { pattern := .ref a, string := .str x tx, code := reC, text := x.cps, kind := 0, groups := 1, pos := 0, lim := x.cps.size } s) : wpAny (model prog w) A (reWholeTarget (.ref a) (.str x tx)) Q E s := by
  unfold reWholeTarget
  refine wpAny_bind (wpAny_fieldsOf hp rfl ?_)
  have e : reTextOf (.str x tx) = pure (x.cps, 0) := rfl
  rw [e]
  refine wpAny_bind (wpAny_pure ?_)
  dsimp only
  rw [if_neg (by decide)]
  rw [if_neg (by decide)]
  have e2 : reNoCollectionInside (.str x tx) 0 = pure () := rfl
  rw [e2]
  refine wpAny_bind (wpAny_pure ?_)
  refine wpAny_bind ?_
  show wpAny _ _ (seqItems? (.ref 42) >>= fun r => pure ((r.getD #[]).map reRawOf)) _ _ _
  refine wpAny_bind (wpAny_seqItems hc rfl ?_)
  refine wpAny_pure (wpAny_pure ?_)
  have e3 : Array.map (fun (x : Int) => x.toNat) (Array.map reRawOf ((some (reC.map fun (n : Nat) => Value.int (n : Int) 0)).getD #[])) = reC := raw_code
  rw [e3]
  exact h

theorem drop_get {x : Str} {st c : Nat} {r : List Nat} (h : (sl x).drop st = c :: r) : x.cps.getD st 0 = c ∧ st < x.cps.size ∧ (sl x).drop (st + 1) = r := by
  have hl : (sl x).length = x.cps.size := by simp [sl]
  have hlt : st < (sl x).length := by
    have := congrArg List.length h
    rw [List.length_drop, List.length_cons] at this
    omega
  rw [List.drop_eq_getElem_cons hlt] at h
  injection h with h1 h2
  refine ⟨?_, by omega, h2⟩
  rw [← h1]
  simp [sl, Array.getD, show st < x.cps.size by omega]
theorem sl_extract (x : Str) (b e : Nat) : sl ⟨x.cps.extract b e⟩ = ((sl x).drop b).take (e - b) := by
  simp [sl, List.take_drop, Array.toList_extract]

abbrev TG (a : Addr) (x : Str) (tx : Tok) : ReTarget := { pattern := .ref a, string := .str x tx, code := reC, text := x.cps, kind := 0, groups := 1, pos := 0, lim := x.cps.size }
abbrev SB := Array Value × Nat × Nat × Bool × Int × Bool
def SInv (x : Str) (ts : List (List Nat)) (s : Shared) (n : Nat) (b : SB) (s' : Shared) : Prop :=
  ∃ tk, s' = { s with toks := tk } ∧ ∃ qs : List (Str × Tok), b.1 = (strValues qs).toArray ∧
    ((b.2.2.2.2.2 = false ∧ ∃ ts1 ts2, qs.map (fun q => sl q.1) = ts1.flatMap (fun t => [[], t]) ∧ ts = ts1 ++ ts2 ∧ Toks ((sl x).drop b.2.1) ts2 ∧ b.2.1 ≤ x.cps.size ∧ b.2.2.1 = b.2.1 ∧ b.2.2.2.1 = false ∧ x.cps.size - b.2.1 < n) ∨
     (b.2.2.2.2.2 = true ∧ qs.map (fun q => sl q.1) = ts.flatMap (fun t => [[], t]) ∧ b.2.2.1 = x.cps.size))

/-- what one found piece adds -/
theorem add_piece {a : Addr} {x : Str} {tx : Tok} {st e : Nat} {m : M} {out : Array Value} {n : Int} {Q : ForInStep SB → Shared → Prop} (hf : FoundAt m st e) (he : st < e) (hx : x.length ≤ 600)
    (h : ∀ t1 t2 tk, Q (.yield ((out.push (.str ⟨x.cps.extract st st⟩ t1)).push (.str ⟨x.cps.extract st e⟩ t2), e, e, false, n + 1, false)) { s with toks := tk }) :
    wpAny (model prog w) A (do
      let __do_lift ← reSlice x.cps 0 st m.start
      let __s_1 ← forIn (List.range 1) (out.push __do_lift) fun g __s => do
        let __do_lift ← reMachineGroup (TG a x tx) m (g + 1) (pure Value.none)
        pure (ForInStep.yield (__s.push __do_lift))
      pure (ForInStep.yield ((__s_1, m.handed, m.handed, m.handed == m.start, n + 1, false) : SB))) Q E s := by
  obtain ⟨_, h2, h3, h4, h5⟩ := hf
  have hsz : ∀ b e, (⟨x.cps.extract b e⟩ : Str).length ≤ sizeLine := fun b e => by
    have : (⟨x.cps.extract b e⟩ : Str).length ≤ x.length := by
      show (x.cps.extract b e).size ≤ x.cps.size
      rw [Array.size_extract]; omega
    rw [sizeLine_eq]; omega
  rw [h2, h3]
  show wpAny _ _ (mkStr ⟨x.cps.extract st st⟩ >>= _) _ _ _
  refine wpAny_bind (wpAny_mkStr ?_ (hsz _ _))
  refine wpAny_bind (wpAny_forIn_list _ (fun rest b s' => (rest = [0] ∧ b = out.push (.str ⟨x.cps.extract st st⟩ s.toks) ∧ s' = { s with toks := s.toks + 1 }) ∨ (rest = [] ∧ ∃ t2 tk, b = (out.push (.str ⟨x.cps.extract st st⟩ s.toks)).push (.str ⟨x.cps.extract st e⟩ t2) ∧ s' = { s with toks := tk })) _ ?_ ?_ _ _ (.inl ⟨rfl, rfl, rfl⟩))
  · rintro g rest b s' (⟨er, rfl, rfl⟩ | ⟨er, _⟩)
    · cases er
      have eg : reMachineGroup (TG a x tx) m (0 + 1) (pure Value.none) = mkStr ⟨x.cps.extract st e⟩ := by
        unfold reMachineGroup
        rw [h4, h5, if_neg (by decide)]
        show (if e < st then _ else _) = _
        rw [if_neg (by omega)]
        rfl
      rw [eg]
      refine wpAny_bind (wpAny_mkStr (wpAny_pure ?_) (hsz _ _))
      exact .inr ⟨rfl, _, _, rfl, rfl⟩
    · cases er
  · rintro b s' (⟨er, _⟩ | ⟨_, t2, tk, rfl, rfl⟩)
    · cases er
    · refine wpAny_pure ?_
      rw [show (e == st) = false from by simp; omega]
      exact h _ _ _

theorem split_body {a : Addr} {x : Str} {tx : Tok} {ts : List (List Nat)} {Q : Fin → Shared → Prop} (hp : s.heap.get? a = some patObj) (hc : s.heap.get? 42 = some codeObj) (ht : Toks (sl x) ts) (hx : x.length ≤ 600)
    (h : ∀ qs : List (Str × Tok), qs.map (fun q => sl q.1) = ts.flatMap (fun t => [[], t]) ++ [[]] → ∀ tk, Q (.done (.ret (.ref s.heap.objs.size))) { s with heap := s.heap.push (listOf (strValues qs).toArray 0), toks := tk }) :
    wpAny (model prog w) A (Builtin.«re.Pattern.split» ⟨[.ref a, .str x tx], []⟩) Q E s := by
  unfold Builtin.«re.Pattern.split»
  dsimp only
  rw [named_split]
  refine wpAny_bind (wpAny_pure ?_)
  refine wpAny_bind (wpAny_pure ?_)
  refine wpAny_bind (whole_target hp hc ?_)
  dsimp only
  have hxs : x.cps.size ≤ 600 := hx
  refine wpAny_bind (wpAny_forIn_list _ (fun rest b s' => SInv x ts s rest.length b s') _ ?_ ?_ _ _ ?_)
  · rintro i rest ⟨out, st, la, mu, n, ov⟩ s' ⟨tk, rfl, qs, hqs, hinv⟩
    dsimp only at hqs hinv
    subst hqs
    rcases hinv with ⟨rfl, ts1, ts2, hq, rfl, htk, hst, hla, rfl, hlt⟩ | ⟨rfl, hq, hla⟩
    · have hla := hla.symm
      subst hla
      dsimp only
      rw [if_pos (by decide), if_neg (by simp)]
      have conv : ∀ e q, Toks ((sl x).drop e) q → st < e → e ≤ x.cps.size → ∀ piece, ((sl x).drop st).take (e - st) = piece → ∀ ts2', ts2' = piece :: q → ts1 ++ ts2' = ts1 ++ ts2 → FoundAt (M.runFor 12 (Sre.forSearch reC x.cps 1 st x.cps.size false)) st e →
          ∀ R : ForInStep SB → Shared → Prop, (∀ b s', SInv x (ts1 ++ ts2) s rest.length b s' → R (.yield b) s') → wpAny (model prog w) A (reNextFound (TG a x tx) st false >>= fun __do_lift => match __do_lift with
            | none => pure (ForInStep.yield (((strValues qs).toArray, st, st, false, n, true) : SB))
            | some m => do
              let __do_lift ← reSlice x.cps 0 st m.start
              let __s_1 ← forIn (List.range 1) ((strValues qs).toArray.push __do_lift) fun g __s => do
                let __do_lift ← reMachineGroup (TG a x tx) m (g + 1) (pure Value.none)
                pure (ForInStep.yield (__s.push __do_lift))
              pure (ForInStep.yield ((__s_1, m.handed, m.handed, m.handed == m.start, n + 1, false) : SB)))
            R E { s with toks := tk } := by
        intro e q hq' he hel piece hpc ts2' h2 hall hfound R hR
        refine wpAny_bind (next_found (t := TG a x tx) hfound fun m hm => ?_)
        dsimp only
        refine add_piece hm he hx fun t1 t2 tk2 => ?_
        refine hR _ _ ⟨tk2, rfl, qs ++ [(⟨x.cps.extract st st⟩, t1), (⟨x.cps.extract st e⟩, t2)], ?_, .inl ⟨rfl, ts1 ++ [piece], q, ?_, ?_, hq', hel, rfl, rfl, ?_⟩⟩
        · simp [strValues]
        · rw [List.map_append, hq, List.flatMap_append]
          have e1 : sl ⟨x.cps.extract st st⟩ = [] := by rw [sl_extract, Nat.sub_self, List.take_zero]
          have e2 : sl ⟨x.cps.extract st e⟩ = piece := by rw [sl_extract, hpc]
          simp [e1, e2]
        · rw [← hall, h2, List.append_assoc]; rfl
        · dsimp only
          rw [List.length_cons] at hlt
          omega
      generalize hrem : (sl x).drop st = rem at htk
      have hsl : (sl x).length = x.cps.size := by simp [sl]
      have hdl : rem.length = x.cps.size - st := by rw [← hrem, List.length_drop, hsl]
      cases htk with
      | nil =>
        have hst' : st = x.cps.size := by
          simp at hdl
          omega
        subst hst'
        obtain ⟨m, e, ho⟩ := search_end (text := x.cps) (lim := x.cps.size)
        refine wpAny_bind (next_none (t := TG a x tx) (by rw [show Sre.forSearch (TG a x tx).code (TG a x tx).text (TG a x tx).groups x.cps.size (TG a x tx).lim false = m from e]; exact ho) ?_)
        refine wpAny_pure ⟨tk, rfl, qs, rfl, .inr ⟨rfl, ?_, rfl⟩⟩
        rw [List.append_nil]; exact hq
      | @sep c r ts' hc' hr =>
        obtain ⟨g1, g2, g3⟩ := drop_get hrem
        refine conv (st + 1) ts' (by rw [g3]; exact hr) (by omega) (by omega) [c] ?_ _ rfl rfl (find_sep g2 (by omega) (by rw [g1]; exact hc')) _ (fun _ _ h => h)
        rw [hrem, show st + 1 - st = 1 by omega]; rfl
      | @num ds r ts' hn hd hr' hr =>
        have hlen : ds.length + r.length = x.cps.size - st := by rw [← List.length_append]; exact hdl
        have hpos : 0 < ds.length := List.length_pos_iff.mpr hn
        have hat : ∀ i, i < ds.length → 48 ≤ x.cps.getD (st + i) 0 ∧ x.cps.getD (st + i) 0 ≤ 57 := fun i hi => by
          have e1 : (sl x).drop (st + i) = (ds.drop i) ++ r := by
            rw [← List.drop_drop, hrem, List.drop_append_of_le_length (by omega)]
          rw [List.drop_eq_getElem_cons hi] at e1
          rw [(drop_get (show (sl x).drop (st + i) = ds[i] :: (ds.drop (i + 1) ++ r) from e1)).1]
          exact hd _ (List.getElem_mem hi)
        have e2 : (sl x).drop (st + ds.length) = r := by
          rw [← List.drop_drop, hrem, List.drop_append_of_le_length (Nat.le_refl _), List.drop_length]; rfl
        refine conv (st + ds.length) ts' (by rw [e2]; exact hr) (by omega) (by omega) ds ?_ _ rfl rfl (find_num hpos (by omega) (by omega) hat ?_) _ (fun _ _ h => h)
        · rw [hrem, show st + ds.length - st = ds.length by omega, List.take_left]
        · cases r with
          | nil => exact .inl (by simp at hlen; omega)
          | cons c r' =>
            right
            rw [(drop_get e2).1]
            exact hr' c r' rfl
    · dsimp only
      rw [if_neg (by decide)]
      exact wpAny_pure ⟨tk, rfl, qs, rfl, .inr ⟨rfl, hq, hla⟩⟩
  · rintro ⟨out, st, la, mu, n, ov⟩ s' ⟨tk, rfl, qs, hqs, hinv⟩
    dsimp only at hqs hinv
    subst hqs
    rcases hinv with ⟨_, _, _, _, _, _, _, _, _, hlt⟩ | ⟨rfl, hq, rfl⟩
    · exact absurd hlt (Nat.not_lt_zero _)
    · dsimp only
      rw [if_neg (by decide)]
      show wpAny _ _ (mkStr ⟨x.cps.extract x.cps.size x.cps.size⟩ >>= _) _ _ _
      refine wpAny_bind (wpAny_mkStr ?_ (by show (x.cps.extract x.cps.size x.cps.size).size ≤ _; simp))
      have e : (((strValues qs).toArray.push (.str ⟨x.cps.extract x.cps.size x.cps.size⟩ tk)).toList) = strValues (qs ++ [(⟨x.cps.extract x.cps.size x.cps.size⟩, tk)]) := by simp [strValues]
      rw [show (Shared.toks { s with toks := tk }) = tk from rfl, e]
      have hql : (strValues (qs ++ [(⟨x.cps.extract x.cps.size x.cps.size⟩, tk)])).length ≤ sizeLine := by
        have h1 := congrArg List.length hq
        have h2 := toks_len ht
        have h3 : (sl x).length = x.cps.size := by simp [sl]
        rw [List.length_map, flat2_len] at h1
        rw [sizeLine_eq]
        simp [strValues]
        omega
      refine wpAny_bind (wpAny_newList ?_ hql)
      refine wpAny_pure (h _ ?_ _)
      rw [List.map_append, hq]
      have e1 : sl ⟨x.cps.extract x.cps.size x.cps.size⟩ = [] := by rw [sl_extract, Nat.sub_self, List.take_zero]
      simp [e1]
  · exact ⟨s.toks, rfl, [], rfl, .inl ⟨rfl, [], ts, rfl, rfl, ht, Nat.zero_le _, rfl, rfl, by rw [List.length_range]; show _ < 2 * x.cps.size + 3; omega⟩⟩
end
end Mine

end
/- part R5 -/
noncomputable section
open PySem PySem.W PyProof.Rows
namespace Mine
open PySem.Calls
set_option maxRecDepth 100000
theorem slot_pat_split : Slot "re.Pattern" "split" "re.Pattern.split" :=
  .of (owner := "re.Pattern") (n := "split") (by rw [typeLookup_type, builtinLookup_eq_fast]; kernel_rfl) (by decide +kernel) (by decide +kernel) (by decide +kernel)
    (by first | exact .inl (by decide +kernel) | exact .inr (by decide +kernel)) (by rw [isSubtype_type]; kernel_rfl)
theorem entry_pat_split : entryFor table "re.Pattern.split" = some Builtin.«re.Pattern.split» := entryFor_of_tree (by kernel_rfl)
theorem type_pat_split : typeOf (.builtin "re.Pattern.split") = pure (.type "method_descriptor") := by show builtinType _ = _; rw [builtinType_eq_fast]; kernel_rfl
theorem plainAttrs_pat : PlainAttrs "re.Pattern" :=
  ⟨⟨"object.__getattribute__", by rw [typeLookup_type, builtinLookup_eq_fast]; kernel_rfl, by decide +kernel⟩, by rw [typeLookup_type, builtinLookup_eq_fast]; kernel_rfl⟩
theorem owner_pat : Manifest.owners.lookup (String.ofList ['n', 'r', 'e', 't', 't', 'a', 'P', '.', 'e', 'r'].reverse) = some Manifest.sig_re_Pattern := by kernel_rfl
theorem args_pat_split_2 (a b : Value) : argsOk "re.Pattern.split" ⟨[a, b], []⟩ := by
  unfold argsOk; rw [signature?_of (id := "re.Pattern.split") (n := ['t', 'i', 'l', 'p', 's']) (o := ['n', 'r', 'e', 't', 't', 'a', 'P', '.', 'e', 'r']) (by kernel_rfl) owner_pat]; kernel_rfl

section
variable {prog : Program} {w : World} {A : Around} {E : Value → Shared → Prop} {s : Shared}
theorem getMethod_split {a : Addr} {pl : Sem Bool} {Q : Value × List Value → Shared → Prop} (hp : s.heap.get? a = some patObj) (h : Q (.builtin "re.Pattern.split", [.ref a]) s) : wpAny (model prog w) A (getMethod (.ref a) "split" pl) Q E s :=
  getMethod_builtin ⟨_, hp, rfl⟩ plainAttrs_pat slot_pat_split type_pat_split (fun b e => by cases e; exact ⟨_, hp, rfl⟩) h
theorem call_split {a : Addr} {x : Str} {tx : Tok} {ts : List (List Nat)} {Q : Value → Shared → Prop} (hp : s.heap.get? a = some patObj) (hc : s.heap.get? 42 = some codeObj) (ht : Toks (sl x) ts) (hx : x.length ≤ 600)
    (h : ∀ qs : List (Str × Tok), qs.map (fun q => sl q.1) = ts.flatMap (fun t => [[], t]) ++ [[]] → ∀ tk, Q (.ref s.heap.objs.size) { s with heap := s.heap.push (listOf (strValues qs).toArray 0), toks := tk }) :
    wpAny (model prog w) A (call (.builtin "re.Pattern.split") [.ref a, .str x tx]) Q E s := by
  have hT : s.TypeIs (.ref a) "re.Pattern" := ⟨_, hp, rfl⟩
  refine wpAny_call_entry slot_pat_split hT entry_pat_split ?_ (args_pat_split_2 _ _)
  exact split_body hp hc ht hx fun qs hq tk => ⟨_, rfl, h qs hq tk⟩
end
theorem typeCall_int_2 (a b : Value) : checkTypeCall "int" ⟨[a, b], []⟩ = pure () := by kernel_rfl
theorem newCall_int_2 (a b : Value) : checkBuiltinCall "int.__new__" ⟨[.type "int", a, b], []⟩ = pure () := by kernel_rfl
theorem new_tree10 {x : Str} {u t : Tok} : Builtin.«int.__new__» ⟨[.type "int", .str x u, .int 10 t], []⟩ = ((int_private% "intFromText") (.str x u) (numTextOf x) 10 >>= fun r => ret r) := by
  have f1 := F.conv_sub_int
  have f2 := F.madeHere_int
  unfold Builtin.«int.__new__»
  simp only [f1, f2, pure_bind]
  rfl
theorem seenLen (x : Str) : (numSeenOf x).length ≤ x.length := seen_length x
section
variable {prog : Program} {w : World} {A : Around} {E : Value → Shared → Prop} {s : Shared}
theorem call_int10 {x : Str} {t u : Tok} {n : Int} {Q : Value → Shared → Prop} (hn : PySem.intText? x = some n) (hl : x.length ≤ 640) (h : ∀ tk, Q (.int n tk) { s with toks := tk + 1 }) :
    wpAny (model prog w) A (call (.type "int") [.str x t, .int 10 u]) Q E s := by
  have hs : (numSeenOf x).length ≤ 640 := Nat.le_trans (seenLen x) hl
  have hr : (int_private% "readNumeral") 0 10 (numSeenOf x) = (int_private% "Numeral.value") n ∧ ((numSeenOf x).length == (numTextOf x).length) = true := by
    rcases read0 x hs with ⟨m, h1, h2, h3⟩ | ⟨h1, _⟩
    · rw [hn] at h1
      injection h1 with h1
      subst h1
      exact ⟨h3, h2⟩
    · rw [hn] at h1
      cases h1
  refine callType_newIn F.called_int F.newNe_int (typeCall_int_2 _ _) (newCall_int_2 _ _) (fun obj => F.args_object_init_3 obj _ _) F.entry_int_new
    (S := fun A R s => ∀ tk, R (.ok (.ret (.int n tk))) { s with toks := tk + 1 }) ?_ ?_
  · intro A R s hs'
    rw [new_tree10]
    exact wpAny_bind (KIN.wp_text hs hr.1 hr.2 (wpAny_pure (hs' _)))
  · intro tk
    exact ⟨rfl, h tk⟩
end
end Mine

end
/- part R6 -/
noncomputable section
open PySem PySem.W PyProof.Rows
namespace Mine
open PySem.Calls
set_option maxRecDepth 100000

/-- the number that an item of the split yields, if any -/
def emit (l : List Nat) : List Int := if l = [] ∨ l = [45] ∨ l = [46] then [] else [fval l 0]
def okTok (l : List Nat) : Prop := (l = [] ∨ l = [45] ∨ l = [46]) ∨ (digs l ∧ l ≠ [])
theorem emit_sep {c : Nat} (hc : c = 45 ∨ c = 46) : emit [c] = [] := by
  rcases hc with rfl | rfl <;> rfl
theorem emit_num {l : List Nat} (h : digs l) (hn : l ≠ []) : emit l = [fval l 0] := by
  unfold emit
  rw [if_neg]
  rintro (rfl | rfl | rfl)
  · exact hn rfl
  · have := h 45 (.head _); omega
  · have := h 46 (.head _); omega
theorem toks_txt (n : Int) {r : List Nat} {ts : List (List Nat)} (hr : ∀ c r', r = c :: r' → ¬ (48 ≤ c ∧ c ≤ 57)) (h : Toks r ts) :
    ∃ ts', Toks (txt n ++ r) (ts' ++ ts) ∧ (∀ t ∈ ts', okTok t) ∧ ts'.flatMap emit = [(n.natAbs : Int)] := by
  obtain ⟨ds, hd, hne, hv, h1 | h1⟩ := txt_shape n
  · refine ⟨[ds], ?_, ?_, ?_⟩
    · rw [h1.2]; exact .num hne hd hr h
    · intro t ht; rw [List.mem_singleton.mp ht]; exact .inr ⟨hd, hne⟩
    · rw [List.flatMap_cons, emit_num hd hne, hv]; rfl
  · refine ⟨[[45], ds], ?_, ?_, ?_⟩
    · rw [h1.2]; exact .sep (.inl rfl) (.num hne hd hr h)
    · intro t ht
      rcases List.mem_cons.mp ht with rfl | ht
      · exact .inl (.inr (.inl rfl))
      · rw [List.mem_singleton.mp ht]; exact .inr ⟨hd, hne⟩
    · rw [List.flatMap_cons, List.flatMap_cons, emit_sep (.inl rfl), emit_num hd hne, hv]; rfl
theorem toks_told : ∀ ns : List Int, ∃ ts, Toks (jn (ns.map txt)) ts ∧ (∀ t ∈ ts, okTok t) ∧ ts.flatMap emit = ns.map fun n => (n.natAbs : Int)
  | [] => ⟨[], .nil, (fun _ h => nomatch h), rfl⟩
  | [n] => by
    obtain ⟨ts', h1, h2, h3⟩ := toks_txt n (r := []) (ts := []) (fun c r' e => nomatch e) .nil
    refine ⟨ts', ?_, h2, h3⟩
    rw [List.append_nil, List.append_nil] at h1
    exact h1
  | n :: m :: r => by
    obtain ⟨ts, h1, h2, h3⟩ := toks_told (m :: r)
    obtain ⟨ts', g1, g2, g3⟩ := toks_txt n (r := 46 :: jn ((m :: r).map txt)) (ts := [46] :: ts) (fun c r' e => by injection e with e1 _; omega) (.sep (.inr rfl) h1)
    refine ⟨ts' ++ [46] :: ts, g1, ?_, ?_⟩
    · intro t ht
      rcases List.mem_append.mp ht with ht | ht
      · exact g2 t ht
      · rcases List.mem_cons.mp ht with rfl | ht
        · exact .inl (.inr (.inr rfl))
        · exact h2 t ht
    · rw [List.flatMap_append, g3, List.flatMap_cons, emit_sep (.inr rfl), h3]; rfl
theorem items_told (ts : List (List Nat)) (ho : ∀ t ∈ ts, okTok t) : (∀ t ∈ ts.flatMap (fun t => [[], t]) ++ [[]], okTok t) ∧ (ts.flatMap (fun t => [[], t]) ++ [[]]).flatMap emit = ts.flatMap emit := by
  refine ⟨fun t ht => ?_, ?_⟩
  · rcases List.mem_append.mp ht with ht | ht
    · obtain ⟨t', ht', hm⟩ := List.mem_flatMap.mp ht
      rcases List.mem_cons.mp hm with rfl | hm
      · exact .inl (.inl rfl)
      · rw [List.mem_singleton.mp hm]; exact ho t' ht'
    · rw [List.mem_singleton.mp ht]; exact .inl (.inl rfl)
  · rw [List.flatMap_append]
    have : ∀ ts : List (List Nat), (ts.flatMap fun t => [[], t]).flatMap emit = ts.flatMap emit := by
      intro ts
      induction ts with
      | nil => rfl
      | cons t r ih =>
        rw [List.flatMap_cons, List.flatMap_append, ih]
        have e : emit [] = [] := rfl
        simp [List.flatMap_cons, e]
    rw [this]
    have e : List.flatMap emit [[]] = [] := rfl
    rw [e, List.append_nil]

theorem seps_eq : (Str.ofString "._+-").cps.toList = [46, 95, 43, 45] := by decide +kernel
theorem sep_in {q : Str} (h : sl q = [] ∨ sl q = [45] ∨ sl q = [46]) : (Builtin.Str.occurrences (Str.ofString "._+-") q 0 (Str.ofString "._+-").length 1).isEmpty = false := by
  rcases h with h | h | h
  · rw [show q = mkS [] from sl_inj (by rw [h]; rfl)]; decide +kernel
  · rw [show q = mkS [45] from sl_inj (by rw [h]; rfl)]; decide +kernel
  · rw [show q = mkS [46] from sl_inj (by rw [h]; rfl)]; decide +kernel
theorem num_notin {q : Str} (hd : digs (sl q)) (hn : sl q ≠ []) : (Builtin.Str.occurrences (Str.ofString "._+-") q 0 (Str.ofString "._+-").length 1).isEmpty = true := by
  cases he : (Builtin.Str.occurrences (Str.ofString "._+-") q 0 (Str.ofString "._+-").length 1).isEmpty with
  | true => rfl
  | false =>
    exfalso
    obtain ⟨i, h1, h2⟩ := (StrLaws.found_iff (Str.ofString "._+-") q).mp (by rw [he]; rfl)
    have h3 : (Str.ofString "._+-").cps.extract i (i + q.length) = q.cps := by simpa [Builtin.Str.subAt] using h2
    have h4 : sl q = ((Str.ofString "._+-").cps.extract i (i + q.length)).toList := by rw [h3]
    cases hq : sl q with
    | nil => exact hn hq
    | cons c r =>
      have hc := hd c (by rw [hq]; exact .head _)
      have hm : c ∈ ((Str.ofString "._+-").cps.extract i (i + q.length)).toList := by rw [← h4, hq]; exact .head _
      have hm2 : c ∈ (Str.ofString "._+-").cps.toList := by
        rw [Array.toList_extract] at hm
        exact List.mem_of_mem_drop (List.mem_of_mem_take hm)
      rw [seps_eq] at hm2
      simp at hm2
      omega
theorem toks_mem_len {l : List Nat} {ts : List (List Nat)} (h : Toks l ts) : ∀ t ∈ ts, t.length ≤ l.length := by
  induction h with
  | nil => exact fun _ h => nomatch h
  | sep _ _ ih =>
    intro t ht
    rcases List.mem_cons.mp ht with rfl | ht
    · simp
    · have := ih t ht
      rw [List.length_cons]; omega
  | num _ _ _ _ ih =>
    intro t ht
    rw [List.length_append]
    rcases List.mem_cons.mp ht with rfl | ht
    · omega
    · have := ih t ht
      omega
theorem emit_len : ∀ l : List (List Nat), (l.flatMap emit).length ≤ l.length
  | [] => Nat.le_refl _
  | t :: r => by
    rw [List.flatMap_cons, List.length_append, List.length_cons]
    have h1 := emit_len r
    have h2 : (emit t).length ≤ 1 := by
      unfold emit
      split <;> simp
    omega
theorem pair_len : ∀ l : List Int, (l.flatMap fun v => [100, v]).length = 2 * l.length
  | [] => rfl
  | v :: r => by
    rw [List.flatMap_cons, List.length_append, List.length_cons, pair_len r]
    simp only [List.length_cons, List.length_nil]
    omega
section
variable {prog : Program} {w : World} {A : Around} {E : Value → Shared → Prop} {s : Shared}
theorem for_list {R : Result → Shared → Prop} {target : Expr} {body : List Stmt} {env : Env} {h₀ : Heap} {m : Str → Option Value} {news : List (Addr × Obj)} {l : Addr} {ol : Obj} {items : Array Value} {ep : Nat}
    (hh : A.handled = none) (J : Nat → (Str → Option Value) → List (Addr × Obj) → Prop)
    (F : Fr h₀ env.locals s.heap m) (N : News h₀ env.locals s.heap news) (hl : s.heap.get? l = some ol) (hc : ol.cls = .type "list") (hd : ol.data = .seq items ep) (hj : J 0 m news)
    (hkeep : (∃ o, h₀.get? l = some o) ∨ ∀ i m news₁, J i m news₁ → (l, ol) ∈ news₁)
    (turn : ∀ i v m₁ news₁ I oI h tk, items[i]? = some v → J i m₁ news₁ → I = s.heap.objs.size → (∀ p ∈ news₁, p.1 ≠ I) → Fr h₀ env.locals h m₁ → News h₀ env.locals h ((I, oI) :: news₁) →
      wpAny (model prog w) A (assign target env v) (fun _ s₂ => wpAny (model prog w) A (execs body env) (fun f s₃ => match f with
        | .next | .cont => ∃ h' tk' m' news', s₃ = { s with heap := h', toks := tk' } ∧ Fr h₀ env.locals h' m' ∧ News h₀ env.locals h' ((I, oI) :: news') ∧ (∀ p ∈ news', p.1 ≠ I) ∧ J (i + 1) m' news'
        | .brk => R (.ok .next) s₃
        | .ret v => R (.ok (.ret v)) s₃) (fun _ _ => False) s₂) (fun _ _ => False) { s with heap := h, toks := tk })
    (done : ∀ m₁ news₁ h tk, J items.size m₁ news₁ → Fr h₀ env.locals h m₁ → News h₀ env.locals h news₁ → R (.ok .next) { s with heap := h, toks := tk })
    (ht : ∀ I v, letOwnedTupleGo target (.ref I) v = pure () := by intro _ _; rfl) :
    wpAny (model prog w) A (pyIter (.ref l)) (fun it s₂ => codeAny (model prog w) A (.forLoop target it body [] env) R s₂) E s := by
  have hlt : ∀ p ∈ news, p.1 < s.heap.objs.size := fun p hp => Heap.lt_size (N p hp).1
  have hlI : l ≠ s.heap.objs.size := Nat.ne_of_lt (Heap.lt_size hl)
  refine wpAny_pyIter_list ⟨ol, hl, hc, ep, hd⟩ ?_
  refine forLoop_inv (h₀ := h₀) (news := news) (Walks.list hh s.heap.objs.size l hlI items) J ?_ ?_ ?_ ?_ (F.push _) ?_ ?_ ?_ hj ?_ ?_ (ht _)
  · exact Nat.ne_of_lt F.ns.lt
  · exact next_is_new F
  · rintro i h ⟨⟨o, ho, _⟩, _⟩
    exact ⟨o, ho⟩
  · intro b hb hne
    rcases List.mem_cons.mp hb with rfl | hb
    · exact absurd rfl hne
    · obtain rfl := List.mem_singleton.mp hb
      rcases hkeep with ⟨o, ho⟩ | hk
      · exact .inl ⟨o, ho⟩
      · exact .inr ⟨ol, hk⟩
  · exact fun p hp => ⟨Heap.get?_push_of_some _ (N p hp).1, (N p hp).2⟩
  · exact fun p hp => Nat.ne_of_lt (hlt p hp)
  · exact ⟨⟨_, Heap.get?_push_size _ rfl, rfl, rfl⟩, ⟨ol, Heap.get?_push_of_some _ hl, hc, ep, hd⟩⟩
  · rintro i v m₁ news₁ oI h tk hi hv hj₁ hw F₁ N₁
    exact turn i v m₁ news₁ s.heap.objs.size oI h tk hv hj₁ rfl hw F₁ N₁
  · intro m₁ news₁ h tk hj₁ F₁ N₁
    exact done m₁ news₁ h tk hj₁ F₁ N₁
end
end Mine

end
/- part R4 -/
noncomputable section
open PySem PySem.W PyProof.Rows
namespace Mine
open PySem.Calls
local macro_rules | `(tactic| walk_at "s1") => `(tactic| first
  | (k_unfold; (try dsimp only))
  | ((with_reducible show wpAny _ _ _ _ _ _); (fail_if_success (with_reducible show wpAny _ _ (exec (Stmt.For _ _ _ _ _) _) _ _ _)); (fail_if_success (with_reducible show wpAny _ _ (call (Value.ref _) _) _ _ _)); (fail_if_success (with_reducible show wpAny _ _ (exec (Stmt.Try _ _ _ _ _) _) _ _ _)); (fail_if_success (with_reducible show wpAny _ _ (exec (Stmt.While _ _ _ _) _) _ _ _)); (fail_if_success (with_reducible show wpAny _ _ (eval (Expr.ListComp _ _ _ _) _) _ _ _)); (fail_if_success (with_reducible show wpAny _ _ (exec (Stmt.Assign _ (Expr.ListComp _ _ _ _) _) _) _ _ _)); walk1)
  | ((with_reducible show ite _ _ _); walk1)
  | (dsimp only; (with_reducible show wpAny _ _ _ _ _ _)))
local macro_rules | `(tactic| walk_at "s0") => `(tactic| ((fail_if_success (with_reducible show wpAny _ _ (exec (Stmt.If _ _ _ _) _) _ _ _)); walk_at "s1"))
local macro_rules | `(tactic| walk_at "enter") => `(tactic| (
  refine wpAny_call ?_
  k_dflt (refine' enter (by assumption) (by assumption) ?ho ?hcd ?hr ?hb ?hl ?_ ?c2 ?c3 ?c4 ?c5)
  (case ho => k_is)
  (case hcd => k_is)
  (case hr => omega)
  (case hb => first | exact BindsTo.of_eq rfl | exact binds_K (by assumption) rfl (by k_is) rfl rfl rfl)
  (case hl => exact locs rfl)
  (case c2 => rfl)
  (case c3 => rfl)
  (case c4 => rfl)
  (case c5 => decide)))
local macro_rules | `(tactic| walk_at "eval Name") => `(tactic| ((with_reducible show wpAny _ _ (eval (Expr.Name _ _) (compEnvC _ _ _ _)) _ _ _); k_dflt (first
  | (refine' comp_local ?n ?v ?_ ?k ?l ?d; (case k => rfl); (case l => rfl); (case d => decide); (case n => assumption); (case v => assumption))
  | (refine' comp_global ?X ?T ?e ?_ ?g ?k ?l ?d; (case g => rfl); (case k => rfl); (case l => rfl); (case d => decide); (case X => assumption); (case T => assumption); (case e => k_is))
  | (refine' comp_builtin ?X ?T ?e ?v ?n ?_ ?g ?b ?k ?l ?d; (case g => rfl); (case b => rfl); (case k => rfl); (case l => rfl); (case d => decide); (case X => assumption); (case T => assumption); (case e => k_is); (case v => boot_by_name); (case n => decide)))))
set_option maxRecDepth 100000 in
theorem look43 (p : Params) : (hd.heap_39 p).lookup 43 = some patObj := rfl
set_option maxRecDepth 100000 in
theorem look42 (p : Params) : (hd.heap_39 p).lookup 42 = some codeObj := by kernel_rfl
set_option maxRecDepth 100000 in
set_option maxHeartbeats 8000000 in
theorem comp_spec {w : World} {A : Around} {s : Shared} {Q E : Value → Shared → Prop} {mean : ExcName → Option Value} {mg mb : Str → Option Value} (x : Str) (tx : Tok) (ns : List Int)
  (hx : sl x = jn (ns.map txt)) (hxl : x.length ≤ 600) (hns : ns.length ≤ 3) (hb : ∀ n ∈ ns, n.natAbs < 10 ^ 9) (X : (hd.heap_39 w.params).In s.heap) (T : Top hd.view_39 LO mean mg mb s.heap)
  (hroom : A.depth + 7 < recursionLimit) (hh : A.handled = none) 
  (hret : ∀ l vs ep h' tk', (∀ b o, s.heap.get? b = some o → h'.get? b = some o) → s.heap.get? l = none → h'.get? l = some (listOf vs.toArray ep) → IntsAre vs (ns.flatMap fun n => [100, (n.natAbs : Int)]) → Q (.ref l) { s with heap := h', toks := tk' }) :
      wpAny (model PySem.Challenge.rw_mq0066_01.row.prog w) A (call (.ref 51) [.str x tx]) Q E s := by
  revert X; k_fill; intro X
  walk_at "enter"
  intro L' h₁ hL F N
  refine wpAny_mono (E := fun _ _ => False) ?_ (fun _ _ h => h) (fun _ _ h => h.elim)
  k_fold
  repeat' walk_at "s0"
  rename Fr _ _ _ _ => F'
  rename News _ _ _ _ => N'
  rename_i lr _ _ _
  refine wpAny_mono (Q := fun f s' => f = .next ∧ ∃ vs ep m h' tk', s' = { s with heap := h', toks := tk' } ∧ Fr s.heap L' h' m ∧ News s.heap L' h' [(lr, listOf vs.toArray ep)] ∧ m (Str.ofString "result") = some (.ref lr) ∧ IntsAre vs (ns.flatMap fun n => [100, (n.natAbs : Int)])) ?_ ?_ (fun _ _ h => h)
  rotate_left
  · rintro _ _ ⟨rfl, vs, ep, m, h', tk', rfl, F₂, N₂, hmr, hiv⟩
    replace F₂ := fr_ats _ F₂ (ats1 hmr)
    simp only [over] at F₂
    dsimp only
    repeat' walk_at "s0"
    rename Fr _ _ _ _ => F₃
    rename News _ _ _ _ => N₃
    exact hret _ _ _ _ _ F₃.keep (N₃ _ (.head _)).2.2 (N₃ _ (.head _)).1 hiv
  refine wpAny_For ?_
  repeat' walk_at "s0"
  have hpat : ∀ h' : Heap, (∀ b o, s.heap.get? b = some o → h'.get? b = some o) → h'.get? 43 = some patObj := fun h' k => k _ _ (X _ _ (look43 _))
  have hcod : ∀ h' : Heap, (∀ b o, s.heap.get? b = some o → h'.get? b = some o) → h'.get? 42 = some codeObj := fun h' k => k _ _ (X _ _ (look42 _))
  obtain ⟨ts, ht, hto, hte⟩ := toks_told ns
  rw [← hx] at ht
  refine getMethod_split (hpat _ F'.keep) ?_
  repeat' walk_at "s0"
  rename Heap => hq
  refine call_split (hpat _ F'.keep) (hcod _ F'.keep) ht hxl fun qs hqs tk₁ => ?_
  obtain ⟨hio, hie⟩ := items_told ts hto
  rw [← hqs] at hio hie
  have N₂ := N'.push F' (listOf (strValues qs).toArray 0)
  have F₂ := F'.push (listOf (strValues qs).toArray 0)
  have hlr : lr ≠ hq.objs.size := Nat.ne_of_lt (Heap.lt_size (N' _ (.head _)).1)
  dsimp only
  refine for_list (by exact hh) (fun i m news => m (Str.ofString "result") = some (.ref lr) ∧ ∃ vs ep, news = [(hq.objs.size, listOf (strValues qs).toArray 0), (lr, listOf vs.toArray ep)] ∧ IntsAre vs ((((qs.map fun q => sl q.1).take i).flatMap emit).flatMap fun v => [100, v])) F₂ N₂ (N₂ _ (.head _)).1 rfl rfl ⟨rfl, [], _, rfl, .nil⟩ (.inr ?_) ?_ ?_
  · rintro i m news₁ ⟨_, vs, ep, rfl, _⟩
    exact .head _
  · rintro i v m₁ news₁ I oI h tk hv ⟨hmr, vs, ep, rfl, hiv⟩ hI hn F₁ N₁
    replace F₁ := fr_ats _ F₁ (ats1 hmr)
    simp only [over] at F₁
    rw [sv_get] at hv
    obtain ⟨q, hqi, rfl⟩ := Option.map_eq_some_iff.mp hv
    clear hv
    have hok := hio _ (List.mem_map_of_mem (List.mem_of_getElem? hqi))
    have htake : (((qs.map fun q => sl q.1).take (i + 1)).flatMap emit) = (((qs.map fun q => sl q.1).take i).flatMap emit) ++ emit (sl q.1) := by
      rw [List.take_add_one, List.flatMap_append, List.getElem?_map, hqi]
      simp
    clear F₂ N₂ F' N'
    repeat' walk_at "s1"
    · rename Eq _ true => hc1
      have hnum : digs (sl q.1) ∧ sl q.1 ≠ [] := by
        rcases hok with h | h
        · rw [sep_in h] at hc1; cases hc1
        · exact h
      have hlen : q.1.length ≤ 600 := by
        have h1 : sl q.1 ∈ ts.flatMap (fun t => [[], t]) ++ [[]] := by rw [← hqs]; exact List.mem_map_of_mem (List.mem_of_getElem? hqi)
        have h2 := len_sl x
        have h3 := len_sl q.1
        rcases List.mem_append.mp h1 with h1 | h1
        · obtain ⟨t', ht', hm⟩ := List.mem_flatMap.mp h1
          rcases List.mem_cons.mp hm with e | hm
          · exact absurd e hnum.2
          · rw [List.mem_singleton.mp hm] at h3
            have := toks_mem_len ht t' ht'
            omega
        · exact absurd (List.mem_singleton.mp h1) hnum.2
      have hvl : vs.length ≤ 3000 := by
        have h1 := hiv.length
        rw [pair_len] at h1
        have h2 := emit_len ((qs.map fun q => sl q.1).take i)
        have h3 := congrArg List.length hqs
        rw [List.length_append, flat2_len, List.length_map] at h3
        have h4 := toks_len ht
        have h5 := len_sl x
        rw [List.length_take, List.length_map] at h2
        simp only [List.length_cons, List.length_nil] at h3
        omega
      refine wpAny_Try_except ?_
      repeat' walk_at "s1"
      refine call_int10 ((intText_ok (digs_okl hnum.1) hlen).trans (lawNum_digs hnum.1 hnum.2)) (by omega) fun tk₃ => ?_
      repeat' walk_at "s1"
      rename Fr _ _ _ _ => F₄
      rename News _ _ _ _ => N₄
      rename _ ∧ _ ∧ _ => hlt
      refine kup_extend F₄ N₄ (.head _) rfl (by simp) (.tail (by k_ne) (.tail (Ne.symm (hn _ (.tail _ (.head _)))) (.tail (Ne.symm hlr) (.head fun _ h => nomatch h)))) (extend_door (by rw [List.size_toArray, sizeLine_eq]; simp; omega)) (by rw [sizeLine_eq]; simp; omega) (by rw [sizeLine_eq]; simp; omega) fun h₅ F₅ N₅ => ?_
      repeat' walk_at "s1"
      dsimp only
      refine ⟨_, _, _, [(hq.objs.size, _), (lr, _)], rfl, F₅, news_sub N₅ (fun p hp => .tail _ hp), ?_, rfl, _, _, rfl, ?_⟩
      · intro p hp
        rcases List.mem_cons.mp hp with rfl | hp
        · exact hn _ (.head _)
        · rw [List.mem_singleton.mp hp]
          exact hn (lr, listOf vs.toArray ep) (.tail _ (.head _))
      · rw [htake, emit_num hnum.1 hnum.2, List.flatMap_append]
        exact hiv.append (.cons _ _ (.cons _ _ .nil))
    · rename Eq _ false => hc1
      have hsep : emit (sl q.1) = [] := by
        rcases hok with h | h
        · unfold emit; rw [if_pos h]
        · rw [num_notin h.1 h.2] at hc1; cases hc1
      dsimp only
      rename Fr _ _ _ _ => F₃
      rename News _ _ _ _ => N₃
      refine ⟨_, _, _, _, rfl, F₃, N₃, hn, rfl, vs, ep, rfl, ?_⟩
      rw [htake, hsep, List.append_nil]
      exact hiv
  · rintro m₁ news₁ h tk ⟨hmr, vs, ep, rfl, hiv⟩ F₁ N₁
    refine ⟨rfl, vs, ep, m₁, h, tk, rfl, F₁, news_sub N₁ (fun p hp => .tail _ hp), hmr, ?_⟩
    have e1 : (strValues qs).toArray.size = (qs.map fun q => sl q.1).length := by rw [sv_size, List.length_map]
    rw [e1, List.take_length, hie, hte, List.flatMap_map] at hiv
    exact hiv
end Mine

end
/- part L0 -/
noncomputable section
open PySem PySem.W PyProof.Rows
namespace Mine
open PySem.Calls
set_option maxRecDepth 100000
section
variable {prog : Program} {w : World} {A : Around} {E : Value → Shared → Prop} {s : Shared}
theorem for_pairs {R : Result → Shared → Prop} {elts : List Expr} {x1 : Nat} {pos : Pos} {body : List Stmt} {env : Env} {h₀ : Heap} {m : Str → Option Value} {rest : List (Addr × Obj)} {cl : Addr} {items : Array Value} {ep : Nat}
    (hh : A.handled = none) (F : Fr h₀ env.locals s.heap m) (N : News h₀ env.locals s.heap rest) (hcl : (cl, listOf items ep) ∈ rest) (hit : ∀ v ∈ items, ∃ a, v = .ref a)
    (turn : ∀ v m₁ I oI h tk, v ∈ items → (∀ p ∈ rest, p.1 < I) → Fr h₀ env.locals h m₁ → News h₀ env.locals h ((I, oI) :: rest) →
      wpAny (model prog w) A (assign (.Tuple elts x1 pos) env v) (fun _ s₂ => wpAny (model prog w) A (execs body env) (fun f s₃ => f = .next ∧ ∃ h' tk' m', s₃ = { s with heap := h', toks := tk' } ∧ Fr h₀ env.locals h' m' ∧ News h₀ env.locals h' ((I, oI) :: rest)) (fun _ _ => False) s₂) (fun _ _ => False) { s with heap := h, toks := tk })
    (done : ∀ m₁ h tk, Fr h₀ env.locals h m₁ → R (.ok .next) { s with heap := h, toks := tk }) :
    wpAny (model prog w) A (pyIter (.ref cl)) (fun it s₂ => codeAny (model prog w) A (.forLoop (.Tuple elts x1 pos) it body [] env) R s₂) E s := by
  have hclg := (N _ hcl).1
  have hlt : ∀ p ∈ rest, p.1 < s.heap.objs.size := fun p hp => Heap.lt_size (N p hp).1
  have hIL : env.locals ≠ s.heap.objs.size := Nat.ne_of_lt F.ns.lt
  have hwr : h₀.get? s.heap.objs.size = none := next_is_new F
  refine wpAny_pyIter_list ⟨_, hclg, rfl, ep, rfl⟩ ?_
  generalize hI : s.heap.objs.size = I at *
  refine codeAny_forLoop_any (fun k s' => ∃ i h tk m₁, s' = { s with heap := h, toks := tk } ∧ k = items.size + 1 - i ∧ i ≤ items.size ∧ h.IsListIter I cl i ∧ Fr h₀ env.locals h m₁ ∧ News h₀ env.locals h rest) ?_ (items.size + 1)
    ⟨0, _, s.toks, m, rfl, rfl, Nat.zero_le _, ⟨_, by rw [← hI]; exact Heap.get?_push_size _ rfl, rfl, rfl⟩, F.push _, fun p hp => ⟨Heap.get?_push_of_some _ (N p hp).1, (N p hp).2⟩⟩
  rintro k s' ⟨i, h, tk, m₁, rfl, rfl, hi, hsi, F₁, N₁⟩
  have back : ∀ h', Heap.ExtBut I h h' → Fr h₀ env.locals h' m₁ ∧ News h₀ env.locals h' rest := fun h' hk =>
    ⟨⟨F₁.ns.at' fun o e => hk _ o hIL e, fun b o e => hk b o (fun q => by rw [q, hwr] at e; cases e) (F₁.keep b o e), F₁.above⟩,
      fun p hp => ⟨hk p.1 p.2 (Nat.ne_of_lt (hlt p hp)) (N₁ p hp).1, (N₁ p hp).2⟩⟩
  have hL : Heap.IsList h cl items := ⟨_, (N₁ _ hcl).1, rfl, ep, rfl⟩
  cases hx : items[i]? with
  | none =>
    refine wpAny_pyNext_list_end hh hsi hL hx fun h' he => ?_
    refine wpAny_execs_nil ?_
    exact done m₁ h' _ (back h' he).1
  | some v =>
    refine wpAny_pyNext_list_item hsi hL hx fun h' hit' hs' => ?_
    obtain ⟨F₂, N₂⟩ := back h' hs'.extBut
    have hv : v ∈ items := Array.mem_of_getElem? hx
    obtain ⟨a, rfl⟩ := hit v hv
    dsimp only
    refine wpAny_letOwnedTupleGo_listiter hit' ?_
    obtain ⟨oI, hoI, hoc, hod⟩ := hit'
    have NO : News h₀ env.locals h' ((I, oI) :: rest) := by
      intro p hp
      rcases List.mem_cons.mp hp with rfl | hp
      · exact ⟨hoI, Ne.symm hIL, hwr⟩
      · exact N₂ p hp
    refine wpAny_mono (turn (.ref a) m₁ I oI h' _ hv hlt F₂ NO) (fun _ s₂ h₂ => ?_) (fun _ _ h => h.elim)
    refine wpAny_mono h₂ (fun f s₃ h₃ => ?_) (fun _ _ h => h.elim)
    obtain ⟨rfl, h'', tk'', m', rfl, F₃, N₃⟩ := h₃
    have hlt' : i < items.size := (Array.getElem?_eq_some_iff.mp hx).1
    exact ⟨items.size + 1 - (i + 1), by omega, i + 1, h'', tk'', m', rfl, rfl, hlt', ⟨oI, (N₃ _ (.head _)).1, hoc, hod⟩, F₃, fun p hp => N₃ p (.tail _ hp)⟩

/-- a frame and its objects over a heap that has turned -/
theorem turned_fr {h₀ h h' : Heap} {L : Addr} {m : Str → Option Value} (F : Fr h₀ L h m) (t : Turned [L] h h') : Fr h₀ L h' m := by
  obtain ⟨oL, es, ep, hL, hLd, hLk, hLf⟩ := F.ns
  obtain ⟨sl', hs⟩ := t.2 _ _ hL
  refine ⟨⟨_, es, ep, hs, hLd, hLk, hLf⟩, fun b o e => t.1 b o (F.keep b o e) (fun hm => ?_), F.above⟩
  rw [List.mem_singleton.mp hm] at e
  exact absurd (Nat.lt_of_lt_of_le (Heap.lt_size e) F.above) (Nat.lt_irrefl _)
theorem turned_news {h₀ h h' : Heap} {L : Addr} {news : List (Addr × Obj)} (N : News h₀ L h news) (t : Turned [L] h h') : News h₀ L h' news :=
  fun p hp => ⟨t.1 _ _ (N p hp).1 (fun hm => (N p hp).2.1 (List.mem_singleton.mp hm)), (N p hp).2⟩
theorem keeps_fr {h₀ h h' : Heap} {L : Addr} {m : Str → Option Value} (F : Fr h₀ L h m) (k : ∀ b o, h.get? b = some o → h'.get? b = some o) : Fr h₀ L h' m :=
  ⟨F.ns.at' fun o e => k _ o e, fun b o e => k b o (F.keep b o e), F.above⟩
theorem keeps_news {h₀ h h' : Heap} {L : Addr} {news : List (Addr × Obj)} (N : News h₀ L h news) (k : ∀ b o, h.get? b = some o → h'.get? b = some o) : News h₀ L h' news :=
  fun p hp => ⟨k _ _ (N p hp).1, (N p hp).2⟩
/-- a fresh object joins the ledger -/
theorem news_add {h₀ h h' : Heap} {L a : Addr} {m : Str → Option Value} {news : List (Addr × Obj)} {o : Obj} (F : Fr h₀ L h m) (N : News h₀ L h' news) (hn : h.get? a = none) (ho : h'.get? a = some o) : News h₀ L h' ((a, o) :: news) := by
  intro p hp
  rcases List.mem_cons.mp hp with rfl | hp
  · refine ⟨ho, fun e => ?_, ?_⟩
    · obtain ⟨oL, _, _, hL, _⟩ := F.ns
      rw [show a = L from e, hL] at hn; cases hn
    · cases q : h₀.get? a with
      | none => rfl
      | some o' => rw [F.keep _ _ q] at hn; cases hn
  · exact N p hp
end
end Mine

end
/- part L2 -/
noncomputable section
open PySem PySem.W PyProof.Rows
namespace Mine
open PySem.Calls
def isNo (v : Value) : Bool := match v with | .none => true | _ => false
theorem eq_none_int (n : Int) (t : Tok) : MeetsSeq.EqGives (.int n t) .none false := fun prog w A E s Q h => SeqAt.EqAt.int_none n t prog w E Q h
theorem eq_none_none : MeetsSeq.EqGives .none .none true := fun prog w A E s Q h => by
  show wpAny _ _ (isSame .none .none >>= _) _ _ _
  refine wpAny_bind (wpAny_of_eq (rfl : isSame .none .none = pure true) ?_)
  exact wpAny_pure h
section
variable {prog : Program} {w : World} {A : Around} {E : Value → Shared → Prop} {s : Shared}
theorem none_notin {l : Addr} {vs : Array Value} {Q : Value → Shared → Prop} (hl : s.heap.IsList l vs) (hv : ∀ v ∈ vs, v = .none ∨ ∃ n t, v = .int n t)
    (h : Q (.bool (!vs.any isNo)) s) : wpAny (model prog w) A (compareOp .NotIn .none (.ref l)) Q E s :=
  SeqInW.notIn_listW isNo (fun y hy => by
    rcases hv y hy with rfl | ⟨n, t, rfl⟩
    · exact eq_none_none
    · exact eq_none_int n t) hl h
end

abbrev NG (v y : Value) : Prop := ∃ p t, v = .str p t ∧ numV (lawNum (sl p)) y
theorem nums_kind {ps : List (Str × Tok)} : ∀ {l : List Value}, Paired NG (strValues ps) l → ∀ v ∈ l, v = .none ∨ ∃ n t, v = .int n t := by
  intro l h
  generalize strValues ps = q at h
  induction h with
  | nil => exact fun _ h => nomatch h
  | cons hg _ ih =>
    intro v hv
    rcases List.mem_cons.mp hv with rfl | hv
    · obtain ⟨p, t, _, hn⟩ := hg
      cases he : lawNum (sl p) with
      | none => rw [he] at hn; exact .inl hn
      | some n => rw [he] at hn; obtain ⟨t', e⟩ := hn; exact .inr ⟨n, t', e⟩
    · exact ih v hv
theorem nums_cases : ∀ {ps : List (Str × Tok)} {l : List Value}, Paired NG (strValues ps) l →
    (allNums (ps.map fun p => sl p.1) = none ∧ l.any isNo = true) ∨ (∃ ns, allNums (ps.map fun p => sl p.1) = some ns ∧ IntsAre l ns ∧ l.any isNo = false)
  | [], _, .nil => .inr ⟨[], rfl, .nil, rfl⟩
  | q :: r, _, .cons (b := b) (l₂ := l₂) hg h => by
    obtain ⟨p, t, e, hn⟩ := hg
    injection e with e1 e2
    have ih := nums_cases (ps := r) h
    have eu : allNums ((q :: r).map fun p => sl p.1) = (match lawNum (sl q.1), allNums (r.map fun p => sl p.1) with
      | some n, some ns => some (n :: ns)
      | _, _ => none) := rfl
    rw [eu]
    subst e1
    cases he : lawNum (sl q.1) with
    | none =>
      rw [he] at hn
      have hb : b = .none := hn
      subst hb
      exact .inl ⟨rfl, rfl⟩
    | some n =>
      rw [he] at hn
      obtain ⟨t', rfl⟩ := hn
      rcases ih with ⟨h1, h2⟩ | ⟨ns, h1, h2, h3⟩
      · left
        rw [h1]
        exact ⟨rfl, by rw [List.any_cons, h2]; rfl⟩
      · right
        rw [h1]
        exact ⟨n :: ns, rfl, .cons n t' h2, by rw [List.any_cons, h3]; rfl⟩
theorem ints_mem_in : ∀ {vs : List Value} {ns : List Int} {v : Value}, IntsAre vs ns → v ∈ vs → ∃ n t, n ∈ ns ∧ v = .int n t
  | _, _, _, .nil, h => nomatch h
  | _, _, _, .cons n t r, h => by
    rcases List.mem_cons.mp h with rfl | h
    · exact ⟨n, t, .head _, rfl⟩
    · obtain ⟨m, u, hm, e⟩ := ints_mem_in r h
      exact ⟨m, u, .tail _ hm, e⟩
theorem texts_of_list {vs : List Value} {ns : List Int} {l : List Value} (h : Paired (fun v y => ∃ n t t', v = .int n t ∧ y = .str (Str.ofString (toString n)) t') vs l) (hi : IntsAre vs ns) : ∃ dq : List (Str × Tok), l = strValues dq ∧ dq.map (fun q => sl q.1) = ns.map txt := by
  induction hi generalizing l with
  | nil => cases h; exact ⟨[], rfl, rfl⟩
  | cons n t r ih =>
    cases h with
    | cons hg h =>
      obtain ⟨n', t1, t2, e, rfl⟩ := hg
      injection e with e1 _
      subst e1
      obtain ⟨dq, rfl, hq⟩ := ih h
      exact ⟨(Str.ofString (toString n), t2) :: dq, rfl, by rw [List.map_cons, List.map_cons, hq]; rfl⟩
theorem texts_of {vs : List Value} {ns : List Int} {zs : Array Value} (h : Paired (fun v y => ∃ n t t', v = .int n t ∧ y = .str (Str.ofString (toString n)) t') vs zs.toList) (hi : IntsAre vs ns) : ∃ dq : List (Str × Tok), zs = (strValues dq).toArray ∧ dq.map (fun q => sl q.1) = ns.map txt := by
  obtain ⟨dq, e, hq⟩ := texts_of_list h hi
  exact ⟨dq, by rw [← e], hq⟩
theorem two_ints {ys : Array Value} {ns : List Int} (h : IntsAre ys.toList ns) (h2 : ys.size = 2) : ∃ a b t₁ t₂, ys = #[.int a t₁, .int b t₂] ∧ ns = [a, b] := by
  obtain ⟨l⟩ := ys
  have hl : l.length = 2 := h2
  match l, hl, h with
  | [_, _], _, .cons a t₁ (.cons b t₂ .nil) => exact ⟨a, b, t₁, t₂, rfl, rfl⟩
theorem due_not2 {ps : List (List Nat)} {ns : List Int} (h : allNums ps = some ns) (h2 : ns.length ≠ 2) : dueOf ps = none := by
  unfold dueOf
  rw [h]
  match ns, h2 with
  | [], _ => rfl
  | [_], _ => rfl
  | [_, _], h2 => exact absurd rfl h2
  | _ :: _ :: _ :: _, _ => rfl
theorem due_2 {ps : List (List Nat)} {a b : Int} (h : allNums ps = some [a, b]) : dueOf ps = some (a, b) := by
  unfold dueOf
  rw [h]
end Mine

end
/- part L3 -/
noncomputable section
open PySem PySem.W PyProof.Rows
namespace Mine
open PySem.Calls
/-- what a place is, at one heap -/
def placeIn (r : Option (Int × Int)) (v : Value) (h : Heap) : Prop := match r with
  | none => v = .none
  | some (a, b) => ∃ pa t₁ t₂, v = .ref pa ∧ h.get? pa = some { cls := .type "tuple", data := .seq #[.int a t₁, .int b t₂] }
theorem placeIn_of {r : Option (Int × Int)} {v : Value} {h h' : Heap} (p : placeV r v h h') : placeIn r v h' := by
  cases r with
  | none => exact p
  | some q =>
    obtain ⟨a, t₁, t₂, e, _, g⟩ := p
    exact ⟨a, t₁, t₂, e, g⟩
section
variable {prog : Program} {w : World} {A : Around} {E : Value → Shared → Prop} {s : Shared}
theorem ne_place {r : Option (Int × Int)} {v u : Value} {Q : Value → Shared → Prop} (hv : placeIn r v s.heap) (hu : placeIn r u s.heap) (hA : A.units + 64 < cLine)
    (h : Q (.bool false) s) : wpAny (model prog w) A (compareOp .NotEq v u) Q E s := by
  cases r with
  | none =>
    obtain rfl := (show v = .none from hv)
    obtain rfl := (show u = .none from hu)
    exact EqNone.ne_none_none h
  | some q =>
    obtain ⟨a, b⟩ := q
    obtain ⟨pa, t₁, t₂, rfl, ga⟩ := hv
    obtain ⟨pb, u₁, u₂, rfl, gb⟩ := hu
    refine ne_dataH (reads_tuple_at ga rfl rfl (.cons (.int _ _) (.cons (.int _ _) .nil))) (reads_tuple_at gb rfl rfl (.cons (.int _ _) (.cons (.int _ _) .nil))) rfl rfl hA ?_
    simp only [PyData.eqv, PyData.eqvAll, beq_self_eq_true, Bool.and_true, Bool.not_true]
    exact h
end
/-- the texts that are due: short, and joined they are what is told -/
theorem due_short {h t : List Nat} {dq : List (Str × Tok)} (hl : h.length + t.length ≤ 9)
    (hdq : (dq.map fun q => sl q.1) = (match allNums (piecesOf h t) with | some ns => ns.map txt | none => piecesOf h t)) : (∀ q ∈ dq, q.1.length ≤ 10) ∧ dq.length ≤ 11 ∧ jn ((dq.map fun q => sl q.1).take 3) = toldOf (piecesOf h t) := by
  have hlp : (piecesOf h t).length ≤ 11 := by have := pieces_weight h t; omega
  unfold toldOf
  cases hn : allNums (piecesOf h t) with
  | some ns =>
    rw [hn] at hdq
    dsimp only at hdq ⊢
    refine ⟨fun q hq => ?_, ?_, by rw [hdq]⟩
    · have h1 : sl q.1 ∈ ns.map txt := by rw [← hdq]; exact List.mem_map_of_mem hq
      obtain ⟨n, hn', e⟩ := List.mem_map.mp h1
      have h2 := txt_len (allNums_bound hn (fun p hp => Nat.le_trans (pieces_len hp) hl) n hn')
      rw [e] at h2
      have h3 := len_sl q.1
      omega
    · have e1 := congrArg List.length hdq
      have e2 := allNums_length hn
      simp only [List.length_map] at e1
      omega
  | none =>
    rw [hn] at hdq
    dsimp only at hdq ⊢
    refine ⟨fun q hq => ?_, ?_, by rw [hdq]⟩
    · have h1 : sl q.1 ∈ piecesOf h t := by rw [← hdq]; exact List.mem_map_of_mem hq
      have h2 := pieces_len h1
      have h3 := len_sl q.1
      omega
    · have e1 := congrArg List.length hdq
      simp only [List.length_map] at e1
      omega
theorem sum_short {k : Nat} : ∀ l : List (Str × Tok), (∀ q ∈ l, q.1.length ≤ k) → ((l.map (·.1)).map (·.length)).sum ≤ l.length * k
  | [], _ => Nat.zero_le _
  | q :: r, h => by
    have h1 := h q (.head _)
    have h2 := sum_short r fun z hz => h z (.tail _ hz)
    simp only [List.map_cons, List.sum_cons, List.length_cons, Nat.add_mul, Nat.one_mul]
    omega
theorem joinOk_short {l : List (Str × Tok)} (h : ∀ q ∈ l, q.1.length ≤ 10) (hl : l.length ≤ 11) : JoinOk (Str.ofString ".") (l.map (·.1)) = true := by
  refine joinOk_of ?_
  have e1 : (Str.ofString ".").length = 1 := by decide +kernel
  have h1 := sum_short l h
  rw [e1, List.length_map]
  omega
theorem sl_joined (l : List (Str × Tok)) : sl (Txt.join (Str.ofString ".") (l.map (·.1))) = jn (l.map fun q => sl q.1) := by
  rw [sl_tjoin, List.map_map]; rfl
theorem take_sv (l : List (Str × Tok)) (k : Nat) : (strValues l).take k = strValues (l.take k) := by simp [strValues, List.map_take]
end Mine

end
/- part L4 -/
noncomputable section
open PySem PySem.W PyProof.Rows
namespace Mine
open PySem.Calls
/-- the ranks that the law builds -/
def ranksOf (ns : List Int) : List Int := ns.flatMap fun n => [100, if n < 0 then -n else n]
theorem ranks_eq (ns : List Int) : ranksOf ns = ns.flatMap fun n => [100, (n.natAbs : Int)] := by
  unfold ranksOf
  refine congrArg (List.flatMap · ns) (funext fun n => ?_)
  have : (if n < 0 then -n else n) = (n.natAbs : Int) := by split <;> omega
  rw [this]
theorem ranks_len : ∀ ns : List Int, (ranksOf ns).length = 2 * ns.length
  | [] => rfl
  | n :: r => by
    have ih := ranks_len r
    unfold ranksOf at ih ⊢
    rw [List.flatMap_cons, List.length_append, ih]
    simp only [List.length_cons, List.length_nil]
    omega
theorem ranks_take {ns : List Int} {i : Nat} {n : Int} (h : ns[i]? = some n) : ranksOf (ns.take (i + 1)) = ranksOf (ns.take i) ++ [100, if n < 0 then -n else n] := by
  unfold ranksOf
  rw [List.take_add_one, List.flatMap_append, h]
  simp
theorem pick3a (ys : Array Value) : (slicePick ys none (some 3) none).toList = ys.toList.take 3 := by
  have := pick3 ys.toList
  rwa [Array.toArray_toList] at this
theorem ints_take : ∀ {vs : List Value} {ns : List Int} (k : Nat), IntsAre vs ns → IntsAre (vs.take k) (ns.take k)
  | _, _, 0, _ => .nil
  | _, _, _ + 1, .nil => .nil
  | _, _, k + 1, .cons n t r => .cons n t (ints_take k r)
theorem ints_at : ∀ {vs : List Value} {ns : List Int} {i : Nat} {v : Value}, IntsAre vs ns → vs[i]? = some v → ∃ n t, ns[i]? = some n ∧ v = .int n t
  | _, _, 0, _, .cons n t _, h => by
    injection h with h
    exact ⟨n, t, rfl, h.symm⟩
  | _, _, i + 1, _, .cons n t r, h => by
    obtain ⟨m, u, h1, h2⟩ := ints_at (i := i) r h
    exact ⟨m, u, h1, h2⟩
end Mine

end
/- part L1 -/
noncomputable section
open PySem PySem.W PyProof.Rows
namespace Mine
open PySem.Calls
local macro_rules | `(tactic| walk_at "s1") => `(tactic| first
  | (k_unfold; (try dsimp only))
  | ((with_reducible show wpAny _ _ _ _ _ _); (fail_if_success (with_reducible show wpAny _ _ (exec (Stmt.For _ _ _ _ _) _) _ _ _)); (fail_if_success (with_reducible show wpAny _ _ (call (Value.ref _) _) _ _ _)); (fail_if_success (with_reducible show wpAny _ _ (exec (Stmt.Try _ _ _ _ _) _) _ _ _)); (fail_if_success (with_reducible show wpAny _ _ (exec (Stmt.While _ _ _ _) _) _ _ _)); (fail_if_success (with_reducible show wpAny _ _ (eval (Expr.ListComp _ _ _ _) _) _ _ _)); (fail_if_success (with_reducible show wpAny _ _ (exec (Stmt.Assign _ (Expr.ListComp _ _ _ _) _) _) _ _ _)); walk1)
  | ((with_reducible show ite _ _ _); walk1)
  | (dsimp only; (with_reducible show wpAny _ _ _ _ _ _)))
local macro_rules | `(tactic| walk_at "s0") => `(tactic| ((fail_if_success (with_reducible show wpAny _ _ (exec (Stmt.If _ _ _ _) _) _ _ _)); walk_at "s1"))
local macro_rules | `(tactic| walk_at "enter") => `(tactic| (
  refine wpAny_call ?_
  k_dflt (refine' enter (by assumption) (by assumption) ?ho ?hcd ?hr ?hb ?hl ?_ ?c2 ?c3 ?c4 ?c5)
  (case ho => k_is)
  (case hcd => k_is)
  (case hr => omega)
  (case hb => first | exact BindsTo.of_eq rfl | exact binds_K (by assumption) rfl (by k_is) rfl rfl rfl)
  (case hl => exact locs rfl)
  (case c2 => rfl)
  (case c3 => rfl)
  (case c4 => rfl)
  (case c5 => decide)))
local macro_rules | `(tactic| walk_at "eval Name") => `(tactic| ((with_reducible show wpAny _ _ (eval (Expr.Name _ _) (compEnvC _ _ _ _)) _ _ _); k_dflt (first
  | (refine' comp_local ?n ?v ?_ ?k ?l ?d; (case k => rfl); (case l => rfl); (case d => decide); (case n => assumption); (case v => assumption))
  | (refine' comp_global ?X ?T ?e ?_ ?g ?k ?l ?d; (case g => rfl); (case k => rfl); (case l => rfl); (case d => decide); (case X => assumption); (case T => assumption); (case e => k_is))
  | (refine' comp_builtin ?X ?T ?e ?v ?n ?_ ?g ?b ?k ?l ?d; (case g => rfl); (case b => rfl); (case k => rfl); (case l => rfl); (case d => decide); (case X => assumption); (case T => assumption); (case e => k_is); (case v => boot_by_name); (case n => decide)))))
local macro_rules | `(tactic| walk_at "s2") => `(tactic| ((fail_if_success (with_reducible show wpAny _ _ (subscriptTail _ _ (Value.ref _) (Value.ref _)) _ _ _)); (fail_if_success (with_reducible show wpAny _ _ (compareOp _ _ _) _ _ _)); (fail_if_success (with_reducible show wpAny _ _ (call (Value.builtin _) [_, Value.ref _]) _ _ _)); (fail_if_success (with_reducible show wpAny _ _ (pyIter _) _ _ _)); walk_at "s0"))
def tupsOf (h : Heap) (its : List Value) : List (Addr × Obj) := its.filterMap fun v => match v with
  | .ref a => (h.get? a).map fun o => (a, o)
  | _ => none
theorem tups_mem {h : Heap} {its : List Value} {p : Addr × Obj} (hp : p ∈ tupsOf h its) : .ref p.1 ∈ its ∧ h.get? p.1 = some p.2 := by
  obtain ⟨v, hv, e⟩ := List.mem_filterMap.mp hp
  cases v with
  | ref a =>
    obtain ⟨o, ho, e⟩ := Option.map_eq_some_iff.mp e
    subst e
    exact ⟨hv, ho⟩
  | _ => cases e
theorem mem_tups {h : Heap} {its : List Value} {a : Addr} {o : Obj} (hv : .ref a ∈ its) (ho : h.get? a = some o) : (a, o) ∈ tupsOf h its :=
  List.mem_filterMap.mpr ⟨.ref a, hv, by show (h.get? a).map _ = _; rw [ho]; rfl⟩
set_option maxRecDepth 100000 in
set_option maxHeartbeats 8000000 in
theorem law_holds : PySem.Challenge.rw_mq0066_01.Holds := by
  exact hd (by
    k_go0
    (all_goals try k_fold)
    repeat' walk_at "s0"
    rename Fr _ _ _ _ => F
    rename News _ _ _ _ => N
    rename Top _ _ _ _ _ _ => T
    rename Frag.In _ _ => X
    rename Below _ _ _ _ => K
    rename World => w
    rename Shared => s₁
    rename IntsAre _ _ => hI
    rename Heap.IsList _ _ _ => hL
    rename ¬ (_ < _) => h63
    refine wpAny_mono (Q := fun f s' => f = .next ∧ ∃ m h' tk', s' = { s₁ with heap := h', toks := tk' } ∧ Fr s₁.heap s₁.heap.objs.size h' m) (E := fun _ _ => False) ?_ ?_ (fun _ _ h => h.elim)
    · refine wpAny_For ?_
      repeat' walk_at "s0"
      rename Fr _ _ _ _ => F₁
      rename News _ _ _ _ => N₁
      rename IntsAre _ _ => hI₁
      refine ⟨X.keeps F₁.keep, ?_⟩
      refine cuts_spec _ _ _ ⟨_, (N₁ _ (.head _)).1, rfl, _, rfl⟩ hI₁ (by rw [List.length_take]; omega) (X.keeps F₁.keep) (T.keeps F₁.keep) (show (callerA.depth + 1) + 5 < recursionLimit by decide) rfl fun cl its ep h₂ tk₂ k₂ hc0 hcl hcn hits => ?_
      have F₂ := keeps_fr F₁ k₂
      have N₂ : News s₁.heap s₁.heap.objs.size h₂ ((cl, listOf its.toArray ep) :: tupsOf h₂ its) := by
        refine news_add F₁ ?_ hc0 hcl
        intro p hp
        obtain ⟨hp1, hp2⟩ := tups_mem hp
        obtain ⟨a, hx, th, tl, tt, e, ha0, ha, _⟩ := hits _ hp1
        injection e with e
        exact news_add F₁ News.nil (by rw [e]; exact ha0) hp2 p (.head _)
      clear F₁ N₁
      dsimp only
      refine for_pairs rfl F₂ N₂ (.head _) (fun v hv => ?_) ?_ ?_
      · obtain ⟨a, hx, th, tl, tt, e, _⟩ := hits v (by simpa using hv)
        exact ⟨a, e⟩
      · intro v m₁ I oI h tk hv hlt F₃ N₃
        obtain ⟨a, hx, th, tl, tt, rfl, ha0, ha, ok1, ok2, hl9⟩ := hits v (by simpa using hv)
        have hmem : (a, tupOf hx th tl tt) ∈ tupsOf h₂ its := mem_tups (by simpa using hv) ha
        have hT : IsTup h a #[.str hx th, .str tl tt] := ⟨_, (N₃ _ (.tail _ (.tail _ hmem))).1, rfl, _, rfl⟩
        clear F₂ N₂
        generalize hrest : (I, oI) :: (cl, listOf its.toArray ep) :: tupsOf h₂ its = rest at N₃ ⊢
        repeat' walk_at "s0"
        rename Fr _ _ _ _ => F₁
        rename News _ _ _ _ => N₁
        refine ⟨X.keeps F₁.keep, ?_⟩
        refine pieces_spec hx tl th tt (by omega) (X.keeps F₁.keep) (T.keeps F₁.keep) (show (callerA.depth + 1) + 5 < recursionLimit by decide) rfl fun lp ps ep₁ h₁ tk₁ k₁ hl0 hl1 hps => ?_
        replace N₁ := news_add F₁ (keeps_news N₁ k₁) hl0 hl1
        replace F₁ := keeps_fr F₁ k₁
        clear hl0 hl1 k₁
        repeat' walk_at "s0"
        rename Fr _ _ _ _ => F₁
        rename News _ _ _ _ => N₁
        have hpl : ps.length ≤ 11 := by
          have h1 := congrArg List.length hps
          have h2 := pieces_weight (sl hx) (sl tl)
          have h3 := len_sl hx
          have h4 := len_sl tl
          rw [List.length_map] at h1
          omega
        have hpo : ∀ p ∈ ps, okl (sl p.1) ∧ p.1.length ≤ 9 := fun p hp => by
          have : sl p.1 ∈ piecesOf (sl hx) (sl tl) := by rw [← hps]; exact List.mem_map_of_mem hp
          refine ⟨pieces_okl ok1 ok2 _ this, ?_⟩
          have h1 := pieces_len this
          have h2 := len_sl hx
          have h3 := len_sl tl
          have h4 := len_sl p.1
          omega
        refine comp_assign NG rfl rfl rfl (by decide) rfl (by decide) rfl rfl rfl ?_
        walk_at "s1"
        refine ⟨lp, strValues ps, _, rfl, ⟨_, (N₁ _ (.head _)).1, rfl, _, rfl⟩, by rw [strValues_len, sizeLine_eq]; omega, F₁.ns, ?_, ?_⟩
        · intro C v s₃ m₃ hC hv hns hm hk
          obtain ⟨p, hp, rfl⟩ := List.mem_map.mp hv
          have X₃ : (hd.heap_39 w.params).In s₃.heap := X.keeps fun b o e => hk b o (F₁.keep b o e)
          have T₃ := T.keeps fun b o e => hk b o (F₁.keep b o e)
          repeat' walk_at "s0"
          refine ⟨X₃, ?_⟩
          refine number_spec p.1 p.2 (Nat.le_trans (hpo p hp).2 (by decide)) X₃ T₃ (by show (callerA.depth + 1) + 5 < recursionLimit; decide) (by first | (show callerA.units + 1 + 50 < cLine; decide) | (show callerA.units + 2 + 50 < cLine; decide) | (show callerA.units + 3 + 50 < cLine; decide)) rfl fun v h' tk' k hv => ?_
          exact ⟨⟨p.1, p.2, rfl, hv⟩, h', _, rfl, k⟩
        · intro D h₄ tk₄ ys hD hys hpr hns hk
          obtain ⟨en, hys⟩ := hys
          have F₅ : Fr s₁.heap s₁.heap.objs.size h₄ _ := ⟨hns, fun b o e => hk b o (Nat.ne_of_lt (Heap.lt_size e)) (F₁.keep b o e), F₁.above⟩
          have N₅ : News s₁.heap s₁.heap.objs.size h₄ ((D, listOf ys en) :: (lp, listOf (strValues ps).toArray ep₁) :: rest) := news_add F₁ (fun p hp => ⟨hk _ _ (N₁ p hp).2.1 (N₁ p hp).1, (N₁ p hp).2⟩) hD hys
          clear F₁ N₁ hk hys hns hD
          dsimp only
          repeat' walk_at "s0"
          rename Fr _ _ _ _ => F₅
          rename News _ _ _ _ => N₅
          have hkind : ∀ v ∈ ys, v = .none ∨ ∃ n t, v = .int n t := fun v hv => nums_kind hpr v (by simpa using hv)
          have hcase := nums_cases hpr
          rw [hps] at hcase
          refine wpAny_mono (Q := fun f s' => f = .next ∧ ∃ dl dq ed pv news' m h' tk', s' = { s₁ with heap := h', toks := tk' } ∧ Fr s₁.heap s₁.heap.objs.size h' m ∧ News s₁.heap s₁.heap.objs.size h' news' ∧ m (Str.ofString "due") = some (.ref dl) ∧ m (Str.ofString "place") = some pv ∧ m (Str.ofString "pieces") = some (.ref lp) ∧ m (Str.ofString "numbers") = some (.ref D) ∧ m (Str.ofString "head") = some (.str hx th) ∧ m (Str.ofString "tail") = some (.str tl tt) ∧ (dl, listOf (strValues dq).toArray ed) ∈ news' ∧ (∀ p ∈ (D, listOf ys en) :: (lp, listOf (strValues ps).toArray ep₁) :: rest, p ∈ news') ∧ (dq.map fun q => sl q.1) = (match allNums (piecesOf (sl hx) (sl tl)) with | some ns => ns.map txt | none => piecesOf (sl hx) (sl tl)) ∧ (match dueOf (piecesOf (sl hx) (sl tl)) with | none => pv = .none | some (a, b) => ∃ pa t₁ t₂, pv = .ref pa ∧ (pa, ({ cls := .type "tuple", data := .seq #[.int a t₁, .int b t₂] } : Obj)) ∈ news')) ?_ ?_ (fun _ _ h => h)
          · refine wpAny_If ?_
            repeat' walk_at "s0"
            refine none_notin ⟨_, (N₅ _ (.head _)).1, rfl, _, rfl⟩ hkind ?_
            rcases hcase with ⟨ha, hany⟩ | ⟨ns, ha, hint, hany⟩
            · rw [← Array.any_toList, hany]
              repeat' walk_at "s0"
              refine ⟨rfl, lp, ps, ep₁, .none, _, _, _, _, rfl, F₅, N₅, rfl, rfl, rfl, rfl, rfl, rfl, .tail _ (.head _), fun p hp => hp, ?_, ?_⟩
              · rw [ha]; exact hps
              · rw [dueOf_none ha]
            · rw [← Array.any_toList, hany]
              repeat' walk_at "s0"
              refine comp_assign (fun v y => ∃ n t t', v = .int n t ∧ y = .str (Str.ofString (toString n)) t') rfl rfl rfl (by decide) rfl (by decide) rfl rfl rfl ?_
              walk_at "s1"
              have hbd := allNums_bound ha (fun p hp => by
                have h1 := pieces_len hp
                have h2 := len_sl hx
                have h3 := len_sl tl
                omega)
              refine ⟨D, ys.toList, _, rfl, ⟨_, (N₅ _ (.head _)).1, rfl, _, by rw [Array.toArray_toList]⟩, by rw [hint.length, allNums_length ha, ← hps, List.length_map, sizeLine_eq]; omega, F₅.ns, ?_, ?_⟩
              · intro C v s₃ m₃ hC hv hns hm hk
                obtain ⟨n, t, hn, rfl⟩ := ints_mem_in hint hv
                have X₃ : (hd.heap_39 w.params).In s₃.heap := X.keeps fun b o e => hk b o (F₅.keep b o e)
                have T₃ := T.keeps fun b o e => hk b o (F₅.keep b o e)
                repeat' walk_at "s0"
                exact P.str_of_int (log_small (hbd n hn)) ⟨⟨n, t, _, rfl, rfl⟩, s₃.heap, _, rfl, fun _ _ e => e⟩
              · intro Du h₆ tk₆ zs hDu hzs hpz hns hk
                obtain ⟨eu, hzs⟩ := hzs
                obtain ⟨dq, rfl, hdq⟩ := texts_of hpz hint
                have F₆ : Fr s₁.heap s₁.heap.objs.size h₆ _ := ⟨hns, fun b o e => hk b o (Nat.ne_of_lt (Heap.lt_size e)) (F₅.keep b o e), F₅.above⟩
                have N₆ : News s₁.heap s₁.heap.objs.size h₆ ((Du, listOf (strValues dq).toArray eu) :: (D, listOf ys en) :: (lp, listOf (strValues ps).toArray ep₁) :: rest) := news_add F₅ (fun p hp => ⟨hk _ _ (N₅ p hp).2.1 (N₅ p hp).1, (N₅ p hp).2⟩) hDu hzs
                clear F₅ N₅ hk hzs hns hDu
                dsimp only
                clear hpz
                repeat' walk_at "s0"
                have hsz : ys.size ≤ 11 := by rw [← Array.length_toList, hint.length, allNums_length ha, ← hps, List.length_map]; exact hpl
                refine wpAny_If ?_
                iterate 7 (walk_at "s0")
                refine len_list ⟨_, (N₆ _ (.tail _ (.head _))).1, rfl, _, rfl⟩ (by omega) ?_
                iterate 2 (walk_at "s0")
                refine wpAny_truthy_bool ?_
                by_cases h2 : ys.size = 2
                · obtain ⟨a, b, t₁, t₂, rfl, rfl⟩ := two_ints hint h2
                  rw [if_pos (by rfl)]
                  dsimp only
                  repeat' walk_at "s0"
                  rename Fr _ _ _ _ => F₇
                  rename News _ _ _ _ => N₇
                  refine ⟨rfl, Du, dq, eu, _, _, _, _, _, rfl, F₇, N₇, rfl, rfl, rfl, rfl, rfl, rfl, .tail _ (.head _), fun p hp => .tail _ (.tail _ hp), ?_, ?_⟩
                  · rw [ha]; exact hdq
                  · rw [due_2 ha]; exact ⟨_, _, _, rfl, .head _⟩
                · rw [if_neg (by simp; omega)]
                  dsimp only
                  refine wpAny_execs_nil ?_
                  dsimp only
                  refine wpAny_execs_nil ?_
                  refine ⟨rfl, Du, dq, eu, .none, _, _, _, _, rfl, F₆, N₆, rfl, rfl, rfl, rfl, rfl, rfl, .head _, fun p hp => .tail _ hp, ?_, ?_⟩
                  · rw [ha]; exact hdq
                  · rw [due_not2 ha (by rw [← hint.length, Array.length_toList]; exact h2)]
          rintro _ _ ⟨rfl, dl, dq, ed, pv, news', m', h₇, tk₇, rfl, F₇, N₇, q1, q2, q3, q4, q5, q6, hdl, hsub, hdq, hpv⟩
          clear F₅ N₅
          replace F₇ := fr_ats _ F₇ (atsC q1 (atsC q2 (atsC q3 (atsC q4 (atsC q5 (ats1 q6))))))
          simp only [over] at F₇
          dsimp only
          repeat' walk_at "s0"
          refine ⟨X.keeps F₇.keep, ?_⟩
          refine norm_spec (base := s₁.heap) hx tl th tt hl9 ok1 ok2 (X.keeps F₇.keep) (T.keeps F₇.keep) (K.push F₇ rfl) X T (show (callerA.depth + 1) + 7 < recursionLimit by decide) rfl fun z tz h₈ tk₈ tr hz => ?_
          have F₈ := turned_fr F₇ tr
          have N₈ : News s₁.heap s₁.heap.objs.size h₈ ((dl, listOf (strValues dq).toArray ed) :: (D, listOf ys en) :: (lp, listOf (strValues ps).toArray ep₁) :: news') := fun p hp => by
            rcases List.mem_cons.mp hp with rfl | hp
            · exact turned_news N₇ tr _ hdl
            rcases List.mem_cons.mp hp with rfl | hp
            · exact turned_news N₇ tr _ (hsub _ (.head _))
            rcases List.mem_cons.mp hp with rfl | hp
            · exact turned_news N₇ tr _ (hsub _ (.tail _ (.head _)))
            exact turned_news N₇ tr _ hp
          clear F₇ N₇ tr
          obtain ⟨hds, hdn, hdj⟩ := due_short (by rw [← len_sl, ← len_sl]; exact hl9) hdq
          repeat' walk_at "s2"
          refine wpAny_If ?_
          repeat' walk_at "s2"
          rename Fr _ _ _ _ => F₈
          rename News _ _ _ _ => N₈
          k_dflt (refine' kmk_slice_lit (s := ⟨_, s₁.gens, s₁.drawn, _, s₁.os⟩) (zs := (strValues dq).take 3) F₈ N₈ ⟨_, (N₈ _ (.head _)).1, rfl, _, rfl⟩ ?zp ?zq ?ze ?_ ?zs ?zt ?zz; (case zp => kmk_part); (case zq => kmk_part); (case ze => exact pick3 _); (case zs => with_unfolding_all rfl); (case zt => kmk_pure); (case zz => rw [sv_size, sizeLine_eq]; omega))
          intro D' h' F' N' l1
          rw [take_sv] at N'
          clear F₈ N₈
          repeat' walk_at "s2"
          refine SC.join (l := dq.take 3) ⟨_, (N' _ (.head _)).1, rfl, _, rfl⟩ rfl (joinOk_short (fun q hq => hds q (mem_take hq)) (by rw [List.length_take]; omega)) fun t' k' => ?_
          have hzj : (z != Txt.join (Str.ofString ".") ((dq.take 3).map (·.1))) = false := by
            have : z = Txt.join (Str.ofString ".") ((dq.take 3).map (·.1)) := sl_inj (by rw [sl_joined, List.map_take, hdj, hz])
            rw [← this]; simp
          repeat' walk_at "s2"
          refine PyProof.Rows.ne_str ?_
          rw [hzj]
          repeat' walk_at "s2"
          rename Fr _ _ _ _ => F₈
          rename News _ _ _ _ => N₈
          have hjk := told_ok ok1 ok2 (by rw [← len_sl, ← len_sl]; exact hl9)
          have hjk2 := join_ok ok1 ok2 (by rw [← len_sl, ← len_sl]; exact hl9)
          have hpin : ∀ h₉ : Heap, News s₁.heap s₁.heap.objs.size h₉ news' → placeIn (dueOf (piecesOf (sl hx) (sl tl))) pv h₉ := fun h₉ N₉ => by
            revert hpv
            cases dueOf (piecesOf (sl hx) (sl tl)) with
            | none => exact fun e => e
            | some q => exact fun ⟨pa, t₁, t₂, e, hm⟩ => ⟨pa, t₁, t₂, e, (N₉ _ hm).1⟩
          refine wpAny_If ?_
          repeat' walk_at "s2"
          refine ⟨X.keeps F₈.keep, ?_⟩
          refine place_spec (base := s₁.heap) z tz (by rw [len_sl, hz]; omega) (by rw [hz]; exact hjk.1) (X.keeps F₈.keep) (T.keeps F₈.keep) (K.push F₈ rfl) X T (show (callerA.depth + 1) + 7 < recursionLimit by decide) rfl fun v₁ h₉ tk₉ tr hv₁ => ?_
          have F₉ := turned_fr F₈ tr
          have N₉ := turned_news N₈ tr
          clear F₈ N₈ tr
          rw [hz, place_told] at hv₁
          replace hv₁ := placeIn_of hv₁
          have hv₂ := hpin h₉ (news_sub N₉ fun p hp => .tail _ (.tail _ (.tail _ (.tail _ hp))))
          repeat' walk_at "s2"
          refine ne_place hv₁ hv₂ (by first | (show callerA.units + 1 + 64 < cLine; decide) | (show callerA.units + 2 + 64 < cLine; decide) | (show callerA.units + 3 + 64 < cLine; decide)) ?_
          clear hv₁ hv₂
          dsimp only
          repeat' walk_at "s2"
          have hjp : sl (Txt.join (Str.ofString ".") (ps.map (·.1))) = jn (piecesOf (sl hx) (sl tl)) := by rw [sl_joined, hps]
          refine SC.join (l := ps) ⟨_, (N₉ _ (.tail _ (.tail _ (.tail _ (.head _))))).1, rfl, _, rfl⟩ rfl (joinOk_short (fun q hq => Nat.le_trans (hpo q hq).2 (by decide)) hpl) fun tj kj => ?_
          generalize Txt.join (Str.ofString ".") (ps.map (·.1)) = zj at hjp ⊢
          repeat' walk_at "s2"
          rename Fr _ _ _ _ => F₈
          rename News _ _ _ _ => N₈
          refine ⟨X.keeps F₈.keep, ?_⟩
          refine place_spec (base := s₁.heap) zj tj (by rw [len_sl, hjp]; omega) (by rw [hjp]; exact hjk2.1) (X.keeps F₈.keep) (T.keeps F₈.keep) (K.push F₈ rfl) X T (show (callerA.depth + 1) + 7 < recursionLimit by decide) rfl fun v₁ h₉ tk₉ tr hv₁ => ?_
          have F₉ := turned_fr F₈ tr
          have N₉ := turned_news N₈ tr
          clear F₈ N₈ tr
          rw [hjp, place_join] at hv₁
          replace hv₁ := placeIn_of hv₁
          have hv₂ := hpin h₉ (news_sub N₉ fun p hp => .tail _ (.tail _ (.tail _ (.tail _ hp))))
          repeat' walk_at "s2"
          refine ne_place hv₁ hv₂ (by first | (show callerA.units + 1 + 64 < cLine; decide) | (show callerA.units + 2 + 64 < cLine; decide) | (show callerA.units + 3 + 64 < cLine; decide)) ?_
          clear hv₁ hv₂ hpin
          dsimp only
          repeat' walk_at "s2"
          refine wpAny_If ?_
          repeat' walk_at "s2"
          refine none_notin ⟨_, (N₉ _ (.tail _ (.tail _ (.head _)))).1, rfl, _, rfl⟩ hkind ?_
          rcases hcase with ⟨ha, hany⟩ | ⟨ns, ha, hint, hany⟩
          · rw [← Array.any_toList, hany]
            repeat' walk_at "s2"
            exact ⟨rfl, _, _, _, rfl, F₉, news_sub N₉ fun p hp => .tail _ (.tail _ (.tail _ (.tail _ (hsub _ (.tail _ (.tail _ hp))))))⟩
          · rw [← Array.any_toList, hany]
            have hall : ∀ p ∈ rest, p ∈ (D', listOf (strValues (dq.take 3)).toArray 0) :: (dl, listOf (strValues dq).toArray ed) :: (D, listOf ys en) :: (lp, listOf (strValues ps).toArray ep₁) :: news' := fun p hp => .tail _ (.tail _ (.tail _ (.tail _ (hsub _ (.tail _ (.tail _ hp))))))
            generalize hn0 : (D', listOf (strValues (dq.take 3)).toArray 0) :: (dl, listOf (strValues dq).toArray ed) :: (D, listOf ys en) :: (lp, listOf (strValues ps).toArray ep₁) :: news' = news₀ at N₉ hall
            have hD0 : (D, listOf ys en) ∈ news₀ := by rw [← hn0]; exact .tail _ (.tail _ (.head _))
            repeat' walk_at "s2"
            rename Fr _ _ _ _ => F₈
            rename News _ _ _ _ => N₈
            rename ∀ p ∈ news₀, _ => hlr
            rename_i lr _ _
            have hnl := allNums_length ha
            have hyl : ys.size ≤ 11 := by rw [← Array.length_toList, hint.length, hnl, ← hps, List.length_map]; exact hpl
            have hbd := allNums_bound ha (fun p hp => by
              have h1 := pieces_len hp
              have h2 := len_sl hx
              have h3 := len_sl tl
              omega)
            refine wpAny_mono (Q := fun f s' => f = .next ∧ ∃ vs ep m h' tk', s' = { s₁ with heap := h', toks := tk' } ∧ Fr s₁.heap s₁.heap.objs.size h' m ∧ News s₁.heap s₁.heap.objs.size h' ((lr, listOf vs.toArray ep) :: news₀) ∧ m (Str.ofString "ranks") = some (.ref lr) ∧ m (Str.ofString "told") = some (.str z tz) ∧ IntsAre vs (ranksOf (ns.take 3))) ?_ ?_ (fun _ _ h => h)
            · refine wpAny_For ?_
              repeat' walk_at "s2"
              k_dflt (refine' kmk_slice_lit (s := ⟨_, s₁.gens, s₁.drawn, _, s₁.os⟩) (zs := ys.toList.take 3) F₈ N₈ ⟨_, (N₈ _ (.tail _ hD0)).1, rfl, _, rfl⟩ ?zp ?zq ?ze ?_ ?zs ?zt ?zz; (case zp => kmk_part); (case zq => kmk_part); (case ze => exact pick3a _); (case zs => with_unfolding_all rfl); (case zt => kmk_pure); (case zz => rw [sizeLine_eq]; omega))
              intro ls h₁₀ F₁₀ N₁₀ l10
              clear F₈ N₈
              dsimp only
              refine for_list rfl (fun i m news => m (Str.ofString "ranks") = some (.ref lr) ∧ m (Str.ofString "told") = some (.str z tz) ∧ ∃ vs ep, news = (ls, listOf (ys.toList.take 3).toArray 0) :: (lr, listOf vs.toArray ep) :: news₀ ∧ IntsAre vs (ranksOf ((ns.take 3).take i))) F₁₀ N₁₀ (N₁₀ _ (.head _)).1 rfl rfl ⟨rfl, rfl, [], _, rfl, .nil⟩ (.inr ?_) ?_ ?_
              · rintro i m news₁ ⟨_, _, vs, ep, rfl, _⟩
                exact .head _
              · rintro i v m₁ news₁ I₂ oI₂ h tk hv ⟨hmr, hmt, vs, ep, rfl, hiv⟩ hI₂ hn F₁ N₁
                replace F₁ := fr_ats _ F₁ (atsC hmr (ats1 hmt))
                simp only [over] at F₁
                obtain ⟨n, t, hn3, rfl⟩ := ints_at (i := i) (ints_take 3 hint) (by simpa using hv)
                have hvl : vs.length ≤ 6 := by
                  rw [hiv.length, ranks_len, List.length_take, List.length_take]; omega
                have hls : lr ≠ ls := Nat.ne_of_lt (l10 _ (.head _))
                have hlI : lr ≠ I₂ := hn (lr, _) (.tail _ (.head _))
                clear F₁₀ N₁₀ l10
                dsimp only
                repeat' walk_at "s2"
                rename Fr _ _ _ _ => F₄
                rename News _ _ _ _ => N₄
                rename _ ∧ _ ∧ _ ∧ _ => hlt'
                refine kl_extend F₄ N₄ (.head _) rfl (by simp) (.tail (Ne.symm (Nat.ne_of_lt hlt'.2.2.1)) (.tail (Ne.symm hlI) (.tail (Ne.symm hls) (.head fun p hp => Nat.ne_of_lt (hlr p hp))))) (extend_door (by rw [List.size_toArray, sizeLine_eq]; simp; omega)) (by rw [sizeLine_eq]; simp; omega) (by rw [sizeLine_eq]; simp; omega) fun h₅ F₅ N₅ => ?_
                clear F₄ N₄
                repeat' walk_at "s2"
                dsimp only
                refine ⟨_, _, _, _, rfl, F₅, news_sub N₅ (fun p hp => .tail _ hp), ?_, rfl, rfl, _, _, rfl, ?_⟩
                · intro p hp
                  rcases List.mem_cons.mp hp with rfl | hp
                  · exact hn _ (.head _)
                  · rcases List.mem_cons.mp hp with rfl | hp
                    · exact Ne.symm (Ne.symm hlI)
                    · exact hn _ (.tail _ (.tail _ hp))
                · rw [ranks_take hn3]
                  exact hiv.append (.cons _ _ (.cons _ _ .nil))
              · rintro m₁ news₁ h tk ⟨hmr, hmt, vs, ep, rfl, hiv⟩ F₁ N₁
                refine ⟨rfl, vs, ep, m₁, h, tk, rfl, F₁, news_sub N₁ (fun p hp => .tail _ hp), hmr, hmt, ?_⟩
                have e1 : (ys.toList.take 3).toArray.size = (ns.take 3).length := by
                  rw [List.size_toArray, List.length_take, List.length_take, hint.length]
                rw [e1, List.take_length] at hiv
                exact hiv
            · rintro _ _ ⟨rfl, vs, ep, m, h₁₁, tk₁₁, rfl, F₁₁, N₁₁, hmr, hmt, hiv⟩
              replace F₁₁ := fr_ats _ F₁₁ (atsC hmr (ats1 hmt))
              simp only [over] at F₁₁
              clear F₈ N₈
              dsimp only
              repeat' walk_at "s2"
              refine wpAny_If ?_
              repeat' walk_at "s2"
              refine ⟨X.keeps F₁₁.keep, ?_⟩
              refine comp_spec z tz (ns.take 3) (by rw [hz]; unfold toldOf; rw [ha]; dsimp only; rw [List.map_take]) (by have h1 := len_sl z; rw [hz] at h1; have h2 := hjk.2; omega) (by rw [List.length_take]; omega) (fun n hn => hbd n (mem_take hn)) (X.keeps F₁₁.keep) (T.keeps F₁₁.keep) (show (callerA.depth + 1) + 7 < recursionLimit by decide) rfl fun l us eu h₁₂ tk₁₂ k₁₂ hl0 hl1 hiu => ?_
              have N₁₂ := news_add F₁₁ (keeps_news N₁₁ k₁₂) hl0 hl1
              have F₁₂ := keeps_fr F₁₁ k₁₂
              clear F₁₁ N₁₁ hl0 hl1 k₁₂
              repeat' walk_at "s2"
              refine ne_intsK ⟨_, (N₁₂ _ (.head _)).1, rfl, _, rfl⟩ hiu ⟨_, (N₁₂ _ (.tail _ (.head _))).1, rfl, _, rfl⟩ hiv (by first | (show callerA.units + 1 + 64 < cLine; decide) | (show callerA.units + 2 + 64 < cLine; decide) | (show callerA.units + 3 + 64 < cLine; decide)) ?_
              rw [ranks_eq, decide_eq_true rfl, Bool.not_true]
              repeat' walk_at "s2"
              exact ⟨rfl, _, _, _, rfl, F₁₂, news_sub N₁₂ fun p hp => .tail _ (.tail _ (hall p hp))⟩
      · intro m₁ h tk F₃
        exact ⟨rfl, m₁, h, tk, rfl, F₃⟩
    · rintro _ _ ⟨rfl, m, h', tk', rfl, F'⟩
      dsimp only
      have N' : News s₁.heap s₁.heap.objs.size h' [] := News.nil
      repeat' walk_at "s0"
      dsimp only
      kc_close)
end Mine

end
theorem PySem.Challenge.cw_mq0066_01_holds : PySem.Challenge.rw_mq0066_01.Holds := by
  exact Mine.law_holds

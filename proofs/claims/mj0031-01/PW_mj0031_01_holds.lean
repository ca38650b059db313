import PyProof.Rows.All
import Wide.All
import OpenK.AllK
import Wide.FinOn
import PySem.Challenge.RW_mj0031_01
set_option Elab.async false

namespace Mine

def safeC (c : Nat) : Bool := (97 ≤ c && c ≤ 122) || (65 ≤ c && c ≤ 90) || (48 ≤ c && c ≤ 57) || c == 95 || c == 64 || c == 37 || c == 43 || c == 61 || c == 58 || c == 44 || c == 46 || c == 47 || c == 45

def bareL (w : List Nat) : Bool := !w.isEmpty && w.all safeC
def repC (c : Nat) : List Nat := if c = 39 then [39, 34, 39, 34, 39] else [c]
def repL (w : List Nat) : List Nat := w.flatMap repC
def quoteL (w : List Nat) : List Nat := if bareL w then w else 39 :: (repL w ++ [39])
def joinL : List (List Nat) → List Nat
  | [] => []
  | [x] => quoteL x
  | x :: y :: r => quoteL x ++ 32 :: joinL (y :: r)

def part {α : Type} [DecidableEq α] : List α → List α → Nat
  | a :: as, b :: bs => if a = b then part as bs + 1 else 0
  | _, _ => 0

def wordOrd (x y : List Nat) : Int :=
  if bareL x != bareL y then
    (if (((if bareL x then x else y) == x) == ((if bareL x then x else y).getD 0 0 == 37)) then -1 else 1)
  else if part x y < x.length ∧ part x y < y.length then
    (if x.getD (part x y) 0 < y.getD (part x y) 0 then -1 else 1)
  else if (((if part x y < x.length then x else y) == y) == (bareL x || decide (39 ≤ (if part x y < x.length then x else y).getD (part x y) 0))) then -1 else 1

def listOrd (A B : List (List Nat)) : Int :=
  if A.length = part A B ∧ B.length = part A B then 0
  else if A.length = part A B ∨ B.length = part A B then (if A.length = part A B then -1 else 1)
  else wordOrd (A.getD (part A B) []) (B.getD (part A B) [])

def three (x y : List Nat) : Int := (if y < x then 1 else 0) - (if x < y then 1 else 0)

theorem lt_irr (l : List Nat) : ¬ l < l := List.lt_irrefl l
theorem lt_asym {l m : List Nat} (h : l < m) : ¬ m < l := List.lt_asymm h
theorem app_lt {p l m : List Nat} (h : l < m) : p ++ l < p ++ m := by
  induction p with
  | nil => exact h
  | cons a p ih => exact List.cons_lt_cons_iff.mpr (.inr ⟨rfl, ih⟩)
theorem lt_head {a b : Nat} {l m : List Nat} (h : a < b) : a :: l < b :: m := List.cons_lt_cons_iff.mpr (.inl h)

theorem three_lt {x y : List Nat} (h : x < y) : three x y = -1 := by
  unfold three; rw [if_neg (lt_asym h), if_pos h]; rfl
theorem three_gt {x y : List Nat} (h : y < x) : three x y = 1 := by
  unfold three; rw [if_pos h, if_neg (lt_asym h)]; rfl
theorem three_eq (x : List Nat) : three x x = 0 := by
  unfold three; rw [if_neg (lt_irr x)]; rfl
theorem three_neg (x y : List Nat) : three y x = - three x y := by
  unfold three; omega

/-- what may follow a quoted word -/
def Tl (r : List Nat) : Prop := r = [] ∨ ∃ t, r = 32 :: t

theorem tl_lt {r : List Nat} (hr : Tl r) {c : Nat} (hc : 32 < c) (l : List Nat) : r < c :: l := by
  rcases hr with rfl | ⟨t, rfl⟩
  · exact List.nil_lt_cons _ _
  · exact lt_head hc

theorem part_self {α : Type} [DecidableEq α] (x : List α) : part x x = x.length := by
  induction x with
  | nil => rfl
  | cons a x ih => simp [part, ih]

/-- how two unlike lists part -/
theorem part_cases {α : Type} [DecidableEq α] : ∀ (x y : List α), x ≠ y →
    (∃ p a b r t, x = p ++ a :: r ∧ y = p ++ b :: t ∧ a ≠ b ∧ part x y = p.length) ∨
    (∃ b t, y = x ++ b :: t ∧ part x y = x.length) ∨
    (∃ a t, x = y ++ a :: t ∧ part x y = y.length)
  | [], [], h => absurd rfl h
  | [], b :: t, _ => .inr (.inl ⟨b, t, rfl, rfl⟩)
  | a :: r, [], _ => .inr (.inr ⟨a, r, rfl, rfl⟩)
  | a :: r, b :: t, h => by
    by_cases e : a = b
    · subst e
      have hne : r ≠ t := fun q => h (by rw [q])
      rcases part_cases r t hne with ⟨p, a', b', r', t', h1, h2, h3, h4⟩ | ⟨b', t', h1, h2⟩ | ⟨a', t', h1, h2⟩
      · exact .inl ⟨a :: p, a', b', r', t', by rw [h1]; rfl, by rw [h2]; rfl, h3, by simp [part, h4]⟩
      · exact .inr (.inl ⟨b', t', by rw [h1]; rfl, by simp [part, h2]⟩)
      · exact .inr (.inr ⟨a', t', by rw [h1]; rfl, by simp [part, h2]⟩)
    · exact .inl ⟨[], a, b, r, t, rfl, rfl, e, by simp [part, e]⟩

theorem repL_app (x y : List Nat) : repL (x ++ y) = repL x ++ repL y := by simp [repL, List.flatMap_append]
theorem repL_cons (c : Nat) (y : List Nat) : repL (c :: y) = repC c ++ repL y := rfl
theorem repC_head (c : Nat) : ∃ t, repC c = c :: t := by
  unfold repC; split
  · rename_i h; exact ⟨_, by rw [h]⟩
  · exact ⟨_, rfl⟩

theorem safe_ge {c : Nat} (h : safeC c = true) : 37 ≤ c ∧ c ≠ 39 ∧ (c < 39 ↔ c = 37) := by
  simp only [safeC, Bool.or_eq_true, Bool.and_eq_true, decide_eq_true_eq, beq_iff_eq] at h
  omega

theorem quote_bare {w : List Nat} (h : bareL w = true) : quoteL w = w := by unfold quoteL; rw [if_pos h]
theorem quote_not {w : List Nat} (h : bareL w = false) : quoteL w = 39 :: (repL w ++ [39]) := by unfold quoteL; rw [if_neg (by rw [h]; exact Bool.false_ne_true)]

theorem bare_cons {w : List Nat} (h : bareL w = true) : ∃ c t, w = c :: t ∧ safeC c = true := by
  cases w with
  | nil => cases h
  | cons c t =>
    refine ⟨c, t, rfl, ?_⟩
    simp only [bareL, List.isEmpty_cons, Bool.not_false, Bool.true_and, List.all_cons, Bool.and_eq_true] at h
    exact h.1

theorem bare_mem {w : List Nat} (h : bareL w = true) {c : Nat} (hc : c ∈ w) : safeC c = true := by
  simp only [bareL, Bool.and_eq_true] at h
  exact List.all_eq_true.mp h.2 c hc

def Said (x y : List Nat) (l m : List Nat) : Prop := (wordOrd x y = -1 ∧ l < m) ∨ (wordOrd x y = 1 ∧ m < l)

theorem word_mixed1 {x y : List Nat} (hx : bareL x = true) (hy : bareL y = false) {r r' : List Nat} : Said x y (quoteL x ++ r) (quoteL y ++ r') := by
  obtain ⟨c, t, rfl, hc⟩ := bare_cons hx
  have hg := safe_ge hc
  rw [quote_bare hx, quote_not hy]
  have e : wordOrd (c :: t) y = if c == 37 then -1 else 1 := by
    unfold wordOrd
    simp [hx, hy]
  unfold Said
  rw [e]
  by_cases h37 : c = 37
  · left; subst h37; exact ⟨rfl, lt_head (by omega)⟩
  · right
    refine ⟨by simp [h37], lt_head ?_⟩
    omega

theorem word_mixed2 {x y : List Nat} (hx : bareL x = false) (hy : bareL y = true) {r r' : List Nat} : Said x y (quoteL x ++ r) (quoteL y ++ r') := by
  obtain ⟨c, t, rfl, hc⟩ := bare_cons hy
  have hg := safe_ge hc
  have hne : ¬ (c :: t) = x := fun q => by rw [← q, hy] at hx; cases hx
  rw [quote_bare hy, quote_not hx]
  have e : wordOrd x (c :: t) = if c == 37 then 1 else -1 := by
    unfold wordOrd
    simp only [hx, hy]
    have hb : ((c :: t) == x) = false := beq_eq_false_iff_ne.mpr hne
    simp only [Bool.false_bne, if_true, Bool.false_eq_true, if_false, hb, List.getD_cons_zero]
    by_cases h37 : c = 37 <;> simp [h37]
  unfold Said
  rw [e]
  by_cases h37 : c = 37
  · right; subst h37; exact ⟨rfl, lt_head (by omega)⟩
  · left
    refine ⟨by simp [h37], lt_head ?_⟩
    omega

theorem getD_app (p : List Nat) (a : Nat) (r : List Nat) : (p ++ a :: r).getD p.length 0 = a := by
  simp [List.getD_eq_getElem?_getD]

theorem word_both {x y : List Nat} {b : Bool} (hx : bareL x = b) (hy : bareL y = b) (hne : x ≠ y) {r r' : List Nat} (hr : Tl r) (hr' : Tl r') : Said x y (quoteL x ++ r) (quoteL y ++ r') := by
  rcases part_cases x y hne with ⟨p, a, b', u, v, e1, e2, hab, hp⟩ | ⟨b', t, e1, hp⟩ | ⟨a, t, e1, hp⟩
  · -- two signs part them
    have ew : wordOrd x y = if a < b' then -1 else 1 := by
      unfold wordOrd
      rw [hx, hy, hp, e1, e2, getD_app, getD_app]
      simp
    have key : ∀ {u' v' : List Nat} {q1 q2 : List Nat}, q1 = a :: u' → q2 = b' :: v' → ∀ pre : List Nat, quoteL x ++ r = pre ++ q1 → quoteL y ++ r' = pre ++ q2 → Said x y (quoteL x ++ r) (quoteL y ++ r') := by
      intro u' v' q1 q2 h1 h2 pre h3 h4
      unfold Said
      rw [ew, h3, h4, h1, h2]
      rcases Nat.lt_or_gt_of_ne hab with h | h
      · left; exact ⟨by rw [if_pos h], app_lt (lt_head h)⟩
      · right; exact ⟨by rw [if_neg (by omega)], app_lt (lt_head h)⟩
    cases b with
    | true =>
      refine key (q1 := a :: (u ++ r)) (q2 := b' :: (v ++ r')) rfl rfl p ?_ ?_
      · rw [quote_bare hx, e1]; simp
      · rw [quote_bare hy, e2]; simp
    | false =>
      obtain ⟨ta, ha⟩ := repC_head a
      obtain ⟨tb, hb⟩ := repC_head b'
      refine key (q1 := repC a ++ (repL u ++ [39] ++ r)) (q2 := repC b' ++ (repL v ++ [39] ++ r')) (by rw [ha]; rfl) (by rw [hb]; rfl) (39 :: repL p) ?_ ?_
      · rw [quote_not hx, e1, repL_app, repL_cons]; simp
      · rw [quote_not hy, e2, repL_app, repL_cons]; simp
  · -- y goes on
    have hlen : ¬ (x.length < x.length) := Nat.lt_irrefl _
    have ew : wordOrd x y = if (b || decide (39 ≤ b')) then -1 else 1 := by
      unfold wordOrd
      rw [hx, hy, hp, e1, getD_app]
      simp
    unfold Said
    rw [ew]
    cases b with
    | true =>
      left
      refine ⟨by simp, ?_⟩
      rw [quote_bare hx, quote_bare hy, e1, List.append_assoc]
      have hs : safeC b' = true := bare_mem hy (by rw [e1]; simp)
      exact app_lt (tl_lt hr (by have := safe_ge hs; omega) _)
    | false =>
      rw [quote_not hx, quote_not hy, e1, repL_app, repL_cons]
      have el : 39 :: (repL x ++ [39]) ++ r = (39 :: repL x) ++ (39 :: r) := by simp
      have er : 39 :: (repL x ++ (repC b' ++ repL t) ++ [39]) ++ r' = (39 :: repL x) ++ (repC b' ++ (repL t ++ [39] ++ r')) := by simp
      rw [el, er]
      by_cases h39 : b' = 39
      · subst h39
        left
        refine ⟨by simp, app_lt ?_⟩
        show 39 :: r < 39 :: 34 :: _
        exact List.cons_lt_cons_iff.mpr (.inr ⟨rfl, tl_lt hr (by omega) _⟩)
      · obtain ⟨tb, hb⟩ := repC_head b'
        rw [hb]
        by_cases hge : 39 ≤ b'
        · left; exact ⟨by simp [hge], app_lt (lt_head (by omega))⟩
        · right; exact ⟨by simp [hge], app_lt (lt_head (by omega))⟩
  · -- x goes on
    have hny : ¬ x = y := hne
    have ew : wordOrd x y = if (b || decide (39 ≤ a)) then 1 else -1 := by
      unfold wordOrd
      have hb : (x == y) = false := beq_eq_false_iff_ne.mpr hny
      have hl : y.length < x.length := by rw [e1]; simp
      have hg : x.getD y.length 0 = a := by rw [e1, getD_app]
      rw [hx, hy, hp]
      simp only [bne_self_eq_false, Bool.false_eq_true, if_false, Nat.lt_irrefl, and_false, hl, if_true, hb, hg]
      cases b <;> simp <;> (by_cases h : 39 ≤ a <;> simp [h])
    unfold Said
    rw [ew]
    cases b with
    | true =>
      right
      refine ⟨by simp, ?_⟩
      rw [quote_bare hx, quote_bare hy, e1, List.append_assoc]
      have hs : safeC a = true := bare_mem hx (by rw [e1]; simp)
      exact app_lt (tl_lt hr' (by have := safe_ge hs; omega) _)
    | false =>
      rw [quote_not hx, quote_not hy, e1, repL_app, repL_cons]
      have el : 39 :: (repL y ++ [39]) ++ r' = (39 :: repL y) ++ (39 :: r') := by simp
      have er : 39 :: (repL y ++ (repC a ++ repL t) ++ [39]) ++ r = (39 :: repL y) ++ (repC a ++ (repL t ++ [39] ++ r)) := by simp
      rw [el, er]
      by_cases h39 : a = 39
      · subst h39
        right
        refine ⟨by simp, app_lt ?_⟩
        show 39 :: r' < 39 :: 34 :: _
        exact List.cons_lt_cons_iff.mpr (.inr ⟨rfl, tl_lt hr' (by omega) _⟩)
      · obtain ⟨tb, hb⟩ := repC_head a
        rw [hb]
        by_cases hge : 39 ≤ a
        · right; exact ⟨by simp [hge], app_lt (lt_head (by omega))⟩
        · left; exact ⟨by simp [hge], app_lt (lt_head (by omega))⟩

theorem word_cmp {x y : List Nat} (hne : x ≠ y) {r r' : List Nat} (hr : Tl r) (hr' : Tl r') : Said x y (quoteL x ++ r) (quoteL y ++ r') := by
  cases hx : bareL x with
  | true => cases hy : bareL y with
    | true => exact word_both hx hy hne hr hr'
    | false => exact word_mixed1 hx hy
  | false => cases hy : bareL y with
    | true => exact word_mixed2 hx hy
    | false => exact word_both hx hy hne hr hr'

def tailOf : List (List Nat) → List Nat
  | [] => []
  | x :: r => 32 :: joinL (x :: r)
theorem joinL_cons (x : List Nat) (r : List (List Nat)) : joinL (x :: r) = quoteL x ++ tailOf r := by
  cases r with
  | nil => simp [joinL, tailOf]
  | cons y r => rfl
theorem tl_tail (r : List (List Nat)) : Tl (tailOf r) := by
  cases r with
  | nil => exact .inl rfl
  | cons y r => exact .inr ⟨_, rfl⟩
theorem quote_ne_nil (w : List Nat) : ∃ c t, quoteL w = c :: t := by
  cases h : bareL w with
  | true => obtain ⟨c, t, rfl, _⟩ := bare_cons h; exact ⟨c, t, quote_bare h⟩
  | false => exact ⟨_, _, quote_not h⟩

theorem three_app (p l m : List Nat) : three (p ++ l) (p ++ m) = three l m := by
  by_cases h1 : l < m
  · rw [three_lt h1, three_lt (app_lt h1)]
  · by_cases h2 : m < l
    · rw [three_gt h2, three_gt (app_lt h2)]
    · have : l = m := List.le_antisymm (List.not_lt.mp h2) (List.not_lt.mp h1)
      rw [this, three_eq, three_eq]

def ordR : List (List Nat) → List (List Nat) → Int
  | [], [] => 0
  | [], _ :: _ => -1
  | _ :: _, [] => 1
  | a :: as, b :: bs => if a = b then ordR as bs else wordOrd a b

theorem listOrd_ordR : ∀ A B, listOrd A B = ordR A B
  | [], [] => rfl
  | [], _ :: _ => rfl
  | _ :: _, [] => by simp [listOrd, ordR, part]
  | a :: as, b :: bs => by
    unfold ordR
    by_cases e : a = b
    · subst e
      rw [if_pos rfl, ← listOrd_ordR as bs]
      simp [listOrd, part]
    · rw [if_neg e]
      simp [listOrd, part, e]

theorem three_ordR : ∀ A B, three (joinL A) (joinL B) = ordR A B
  | [], [] => three_eq _
  | [], b :: bs => by
    obtain ⟨c, t, h⟩ := quote_ne_nil b
    rw [joinL_cons b bs, h]
    exact three_lt (List.nil_lt_cons _ _)
  | a :: as, [] => by
    obtain ⟨c, t, h⟩ := quote_ne_nil a
    rw [joinL_cons a as, h]
    exact three_gt (List.nil_lt_cons _ _)
  | a :: as, b :: bs => by
    unfold ordR
    by_cases e : a = b
    · subst e
      rw [if_pos rfl, joinL_cons, joinL_cons, three_app]
      cases as with
      | nil => cases bs with
        | nil => exact three_eq _
        | cons y r => exact three_lt (List.nil_lt_cons _ _)
      | cons x r => cases bs with
        | nil => exact three_gt (List.nil_lt_cons _ _)
        | cons y r' =>
          have := three_ordR (x :: r) (y :: r')
          rw [← this]
          exact three_app [32] _ _
    · rw [if_neg e, joinL_cons, joinL_cons]
      rcases word_cmp e (tl_tail as) (tl_tail bs) with ⟨h1, h2⟩ | ⟨h1, h2⟩
      · rw [h1, three_lt h2]
      · rw [h1, three_gt h2]

theorem plain_law (A B : List (List Nat)) : three (joinL A) (joinL B) = listOrd A B := by
  rw [listOrd_ordR, three_ordR]
end Mine

namespace Mine
open PySem PySem.Sre

def rxCode : Array Nat := #[14, 17, 4, 1, 1, 21, 9, 0, 604043296, 1, 0, 0, 0, 0, 0, 8, 4, 0, 13, 14, 21, 9, 0, 604043296, 1, 0, 0, 0, 0, 0, 8, 4, 0, 1]

def inCs (c : Nat) : Bool := c < 256 && (rxCode.getD (6 + (1 + c / 32)) 0).testBit (c % 32)
theorem cs_small : ∀ c, c < 256 → (inCs c || isWord c) = safeC c := by decide +kernel
theorem cs_safe (c : Nat) : (inCs c || isWord c) = safeC c := by
  by_cases h : c < 256
  · exact cs_small c h
  · have h1 : inCs c = false := by unfold inCs; simp [h]
    have h2 : isWord c = false := by simp [isWord, isDigit]; omega
    have h3 : safeC c = false := by simp [safeC]; omega
    rw [h1, h2, h3]; rfl
theorem category4 (c : Nat) : category 4 c = .ok (isWord c) := by
  show Except.ok (isWord c != false) = _
  simp

theorem inSet5 (c : Nat) (seen : Seen) : ∃ seen', inSet rxCode c rxCode.size 5 true seen = .ok (!safeC c, seen') := by
  show ∃ seen', inSet rxCode c 34 5 true seen = .ok (!safeC c, seen')
  rw [inSet]
  show ∃ seen', inSet rxCode c 33 6 false _ = _
  rw [inSet]
  show ∃ seen', (if inCs c = true then Except.ok (false, _) else inSet rxCode c 32 15 false _) = _
  have hs := cs_safe c
  cases h1 : inCs c with
  | true => rw [h1] at hs; rw [← hs]; exact ⟨_, rfl⟩
  | false =>
    rw [if_neg Bool.false_ne_true, inSet]
    show ∃ seen', (category 4 c >>= fun b => if b = true then pure (false, _) else inSet rxCode c 31 17 false _) = _
    rw [category4]
    rw [h1, Bool.false_or] at hs
    show ∃ seen', (if isWord c = true then pure (false, _) else inSet rxCode c 31 17 false _) = _
    cases h2 : isWord c with
    | true => rw [h2] at hs; rw [← hs]; exact ⟨_, rfl⟩
    | false =>
      rw [h2] at hs; rw [← hs, if_neg Bool.false_ne_true, inSet]
      exact ⟨_, rfl⟩
theorem inSet20 (c : Nat) (seen : Seen) : ∃ seen', inSet rxCode c rxCode.size 20 true seen = .ok (!safeC c, seen') := by
  show ∃ seen', inSet rxCode c 34 20 true seen = .ok (!safeC c, seen')
  rw [inSet]
  show ∃ seen', inSet rxCode c 33 21 false _ = _
  rw [inSet]
  have e : ∀ c, (c < 256 && (rxCode.getD (21 + (1 + c / 32)) 0).testBit (c % 32)) = inCs c := by
    intro c
    by_cases h : c < 256
    · have : ∀ c, c < 256 → (c < 256 && (rxCode.getD (21 + (1 + c / 32)) 0).testBit (c % 32)) = inCs c := by decide +kernel
      exact this c h
    · unfold inCs; simp [h]
  show ∃ seen', (if (c < 256 && (rxCode.getD (21 + (1 + c / 32)) 0).testBit (c % 32)) = true then Except.ok (false, _) else inSet rxCode c 32 30 false _) = _
  rw [e]
  have hs := cs_safe c
  cases h1 : inCs c with
  | true => rw [h1] at hs; rw [← hs]; exact ⟨_, rfl⟩
  | false =>
    rw [if_neg Bool.false_ne_true, inSet]
    show ∃ seen', (category 4 c >>= fun b => if b = true then pure (false, _) else inSet rxCode c 31 32 false _) = _
    rw [category4]
    rw [h1, Bool.false_or] at hs
    show ∃ seen', (if isWord c = true then pure (false, _) else inSet rxCode c 31 32 false _) = _
    cases h2 : isWord c with
    | true => rw [h2] at hs; rw [← hs]; exact ⟨_, rfl⟩
    | false =>
      rw [h2] at hs; rw [← hs, if_neg Bool.false_ne_true, inSet]
      exact ⟨_, rfl⟩

theorem admitted_spec (m : M) (hc : m.code = rxCode) (hl : m.lim = m.text.size) : ∀ (fuel s : Nat) (seen : Seen), fuel + s = m.lim + 1 →
    ((∀ i, s ≤ i → i < m.lim → safeC (m.text.getD i 0) = true) ∧ ∃ seen', m.admitted fuel s seen = .ok (none, seen')) ∨
    (∃ j seen', s ≤ j ∧ j < m.lim ∧ safeC (m.text.getD j 0) = false ∧ m.admitted fuel s seen = .ok (some j, seen')) := by
  intro fuel
  induction fuel with
  | zero => intro s seen h; exact .inl ⟨fun i h1 h2 => by omega, _, rfl⟩
  | succ f ih =>
    intro s seen h
    rw [M.admitted]
    by_cases hs : s ≥ m.lim
    · rw [if_pos hs]; exact .inl ⟨fun i h1 h2 => by omega, _, rfl⟩
    · rw [if_neg hs, hc]
      obtain ⟨seen', e⟩ := inSet5 (m.text.getD s 0) seen
      rw [e]
      cases hb : safeC (m.text.getD s 0) with
      | false => exact .inr ⟨s, seen', Nat.le_refl _, by omega, hb, rfl⟩
      | true =>
        show (_ ∧ ∃ x, m.admitted f (s + 1) seen' = _) ∨ ∃ j x, _ ∧ _ ∧ _ ∧ m.admitted f (s + 1) seen' = _
        rcases ih (s + 1) seen' (by omega) with ⟨h1, h2⟩ | ⟨j, x, h1, h2, h3, h4⟩
        · refine .inl ⟨fun i q1 q2 => ?_, h2⟩
          by_cases q : i = s
          · rw [q]; exact hb
          · exact h1 i (by omega) q2
        · exact .inr ⟨j, x, by omega, h2, h3, h4⟩
end Mine

namespace Mine
open PySem PySem.Sre

theorem runFor_done (n : Nat) (m : M) (h : m.outcome.isSome = true) : m.runFor n = m := by
  cases n with
  | zero => rfl
  | succ n => rw [M.runFor, if_pos h]
theorem runFor_step (n : Nat) (m : M) (h : m.outcome = none) : m.runFor (n + 1) = m.step.runFor n := by
  rw [M.runFor, h]; rfl

theorem fail_run (m : M) (ho : m.outcome = none) (hf : m.frames = []) : ((m.say false).runFor 4).outcome = some .failed := by
  rw [runFor_step 3 _ (by exact ho)]
  have e : (m.say false).step.outcome = some .failed := by
    unfold M.step M.say
    simp only [ho, hf]
    rfl
  rw [runFor_done 3 _ (by rw [e]; rfl), e]

theorem exec_IN (m : M) (h : ops[m.word 0]? = some .IN) (hp : m.pos < m.lim) (seen' : Seen) (ha : accepts m.code m.pc (m.text.getD m.pos 0) (m.seen.add (m.word 0)) = .ok (true, seen')) :
    m.exec = { m with seen := seen', pc := m.pc + itemWidth m.code m.pc, pos := m.pos + 1 } := by
  unfold M.exec
  rw [h]
  dsimp only
  rw [if_neg (Nat.not_le.mpr hp), ha]
theorem exec_SUCCESS (m : M) (h : ops[m.word 0]? = some .SUCCESS) (h1 : m.wholeText = false) (h2 : m.mustAdvance = false) :
    m.exec = ({ m with seen := m.seen.add (m.word 0), handed := m.pos } : M).say true := by
  unfold M.exec
  rw [h]
  dsimp only
  rw [h1, h2]
  simp

theorem match_run (m : M) (hc : m.code = rxCode) (hpc : m.pc = 18) (ho : m.outcome = none) (hf : m.frames = []) (ha : m.answer = none) (hw : m.weight = 0) (hwt : m.wholeText = false) (hma : m.mustAdvance = false)
    (j : Nat) (hj : j < m.lim) (hs : safeC (m.text.getD j 0) = false) (first : Bool) : ((m.attemptAt j first).runFor 4).outcome = some .matched := by
  obtain ⟨code, text, lim, start, lastStart, wholeText, mustAdvance, pc, pos, handed, outermost, marks, lastmark, lastindex, loops, inner, frames, weight, answer, seen, outcome⟩ := m
  simp only at hc hpc ho hf ha hw hwt hma hj hs
  subst hc hpc ho hf ha hw hwt hma
  have e1 : (M.attemptAt ⟨rxCode, text, lim, start, lastStart, false, false, 18, pos, handed, outermost, marks, lastmark, lastindex, loops, inner, [], 0, none, seen, none⟩ j first)
      = ⟨rxCode, text, lim, j, lastStart, false, false, 18, j, j, first, marks, -1, -1, loops, inner, [{ wait := .nextStart, pc := 18, pos := j, outermost := first }], 1, none, seen, none⟩ := rfl
  rw [e1, runFor_step 3 _ rfl]
  obtain ⟨seen', e2⟩ := inSet20 (text.getD j 0) (seen.add 13)
  rw [hs] at e2
  have e3 : (M.step ⟨rxCode, text, lim, j, lastStart, false, false, 18, j, j, first, marks, -1, -1, loops, inner, [{ wait := .nextStart, pc := 18, pos := j, outermost := first }], 1, none, seen, none⟩)
     = ⟨rxCode, text, lim, j, lastStart, false, false, 33, j + 1, j, first, marks, -1, -1, loops, inner, [{ wait := .nextStart, pc := 18, pos := j, outermost := first }], 1, none, seen', none⟩ := by
    have q : (18 : Nat) < rxCode.size := by decide
    unfold M.step
    simp only [Option.isSome_none, Bool.false_eq_true, if_false, q, if_true]
    exact exec_IN ⟨rxCode, text, lim, j, lastStart, false, false, 18, j, j, first, marks, -1, -1, loops, inner, [{ wait := .nextStart, pc := 18, pos := j, outermost := first }], 1, none, seen, none⟩ rfl hj seen' e2
  rw [e3, runFor_step 2 _ rfl]
  have e4 : (M.step ⟨rxCode, text, lim, j, lastStart, false, false, 33, j + 1, j, first, marks, -1, -1, loops, inner, [{ wait := .nextStart, pc := 18, pos := j, outermost := first }], 1, none, seen', none⟩)
     = ⟨rxCode, text, lim, j, lastStart, false, false, 33, j + 1, j + 1, first, marks, -1, -1, loops, inner, [{ wait := .nextStart, pc := 18, pos := j, outermost := first }], 1, some true, seen'.add 1, none⟩ := by
    have q : (33 : Nat) < rxCode.size := by decide
    unfold M.step
    simp only [Option.isSome_none, Bool.false_eq_true, if_false, q, if_true]
    rw [exec_SUCCESS _ rfl rfl rfl]
    rfl
  rw [e4]
  rfl

theorem getD_all (t : Array Nat) : (∀ i, 0 ≤ i → i < t.size → safeC (t.getD i 0) = true) → t.toList.all safeC = true := by
  intro h
  rw [List.all_eq_true]
  intro c hc
  obtain ⟨i, hi, rfl⟩ := List.mem_iff_getElem.mp hc
  have := h i (Nat.zero_le _) (by simpa using hi)
  have hi' : i < t.size := by simpa using hi
  simpa [Array.getD, hi'] using this

theorem rx_run (t : Array Nat) : ((forSearch rxCode t 0 0 t.size false).runFor 4).outcome = some (if t.toList.all safeC then .failed else .matched) := by
  unfold forSearch
  by_cases h0 : t.size = 0
  · have ht : t = #[] := Array.eq_empty_of_size_eq_zero h0
    subst ht
    exact fail_run _ rfl rfl
  · let m : M := { code := rxCode, text := t, lim := t.size, start := 0, lastStart := t.size, pc := 18, pos := 0, handed := 0, marks := Array.replicate 0 none, mustAdvance := false, seen := ({} : Seen).add 14 }
    have hz : (decide (0 > t.size) || decide (t.size - 0 < 1)) = false := by
      rw [decide_eq_false (by omega), decide_eq_false (by omega)]; rfl
    show (M.runFor 4 (if (decide (0 > t.size) || decide (t.size - 0 < 1)) = true then _ else m.attemptFrom 0 true)).outcome = _
    rw [hz, if_neg Bool.false_ne_true]
    unfold M.attemptFrom
    rw [show m.hasFirstSet = true from rfl]
    simp only [Bool.not_true, Bool.false_eq_true, if_false]
    rcases admitted_spec m rfl rfl (m.lim + 1 - 0) 0 m.seen (by omega) with ⟨h1, seen', e⟩ | ⟨j, seen', h1, h2, h3, e⟩
    · rw [e, getD_all t h1, if_pos rfl]
      exact fail_run _ rfl rfl
    · have hall : t.toList.all safeC = false := by
        rw [List.all_eq_false]
        have hj : j < t.size := h2
        refine ⟨t[j], by simp, ?_⟩
        have h3' : safeC (t.getD j 0) = false := h3
        simpa [Array.getD, hj] using h3'
      rw [e, hall, if_neg Bool.false_ne_true]
      exact match_run { m with mustAdvance := false, seen := seen' } rfl rfl rfl rfl rfl rfl rfl rfl j h2 h3 true
end Mine

open PySem PySem.W PyProof.Rows
set_option maxRecDepth 100000
namespace Mine
open Builtin Builtin.Re

def patObj : Obj := { cls := .type "re.Pattern", data := .fields #[.str (Str.ofString "[^\\w@%+=:,./-]") 285, .int 256 322, .int 0 0, .none, .none, .ref 35, .int 0 0] }
def tupItems : Array Value := #[.int 14 0, .int 17 0, .int 4 0, .int 1 0, .int 1 0, .int 21 0, .int 9 0, .int 0 0, .int 604043296 0, .int 1 0, .int 0 0, .int 0 0,
  .int 0 0, .int 0 0, .int 0 0, .int 8 0, .int 4 0, .int 0 0, .int 13 0, .int 14 0, .int 21 0, .int 9 0, .int 0 0, .int 604043296 0, .int 1 0, .int 0 0, .int 0 0, .int 0 0, .int 0 0, .int 0 0, .int 8 0, .int 4 0,
  .int 0 0, .int 1 0]
def tupObj : Obj := { cls := .type "tuple", data := .seq tupItems }
def findObj : Obj := { cls := .type "builtin_function_or_method", data := .fields #[.builtin "re.Pattern.search", .ref 36] }

theorem entry_search : entryFor table "re.Pattern.search" = some Builtin.«re.Pattern.search» := entryFor_of_tree (by kernel_rfl)
theorem quiet_search (args : Args) : (Code.builtin "re.Pattern.search" args).quiet = true := plainId_quiet (by decide +kernel) args
theorem under_search (A : Around) (args : Args) : A.under (.builtin "re.Pattern.search" args) = A.in1 := Around.under_plainId (by decide +kernel) args
theorem sub_pat_module : isSubtype (.type "re.Pattern") (.type "module") = pure false := by rw [isSubtype_type]; kernel_rfl

def sigS : Manifest.Signature := (Manifest.signature? "re.Pattern.search").getD ⟨.constructor, "", "", .none, []⟩
theorem sig_search : Manifest.signature? "re.Pattern.search" = some sigS := by kernel_rfl
theorem kind_search : builtinKind "re.Pattern.search" = some .method := by kernel_rfl
theorem va_search : Manifest.varargsMethods.contains "re.Pattern.search" = false := by decide +kernel
theorem wpAny_if_neg {α : Type} {M : Model} {A : Around} {E : Value → Shared → Prop} {s : Shared} {c : Prop} [Decidable c] {a b : Sem α} {Q : α → Shared → Prop} (hc : ¬ c) (h : wpAny M A b Q E s) : wpAny M A (if c then a else b) Q E s := by rw [if_neg hc]; exact h
theorem wpAny_if_pos {α : Type} {M : Model} {A : Around} {E : Value → Shared → Prop} {s : Shared} {c : Prop} [Decidable c] {a b : Sem α} {Q : α → Shared → Prop} (hc : c) (h : wpAny M A a Q E s) : wpAny M A (if c then a else b) Q E s := by rw [if_pos hc]; exact h
section
variable {prog : Program} {w : World} {A : Around} {E : Value → Shared → Prop} {s : Shared}
theorem check_search {x : Str} {t : Tok} {Q : Unit → Shared → Prop} (hp : s.heap.get? 36 = some patObj) (h : Q () s) :
    wpAny (model prog w) A (checkBoundCall "re.Pattern.search" ⟨[.ref 36, .str x t], []⟩) Q E s := by
  unfold checkBoundCall
  rw [sig_search]
  simp only
  rw [kind_search]
  simp only
  refine wpAny_if_neg (by decide) ?_
  refine wpAny_bind (wpAny_isInstance (T := "re.Pattern") ⟨_, hp, rfl⟩ sub_pat_module ?_)
  rw [va_search]
  refine wpAny_if_neg (by decide) ?_
  have hit : wpAny (model prog w) A (isType (.ref 36)) (fun b s' => b = false ∧ s' = s) E s := by
    unfold isType
    exact wpAny_bind (wpAny_load (a := 36) hp (wpAny_pure ⟨rfl, rfl⟩))
  refine wpAny_bind (wpAny_mono hit ?_ fun _ _ e => e)
  rintro _ _ ⟨rfl, rfl⟩
  refine wpAny_if_neg Bool.false_ne_true ?_
  refine wpAny_bind (wpAny_typeOf (T := "re.Pattern") ⟨_, hp, rfl⟩ ?_)
  exact wpAny_of_eq (a := ()) (by kernel_rfl) h
end
end Mine

open PySem PySem.W PyProof.Rows
set_option maxRecDepth 100000
namespace Mine
open Builtin Builtin.Re

section
variable {prog : Program} {w : World} {A : Around} {E : Value → Shared → Prop} {s : Shared}

theorem named_search (v : Value) : reNamed "re.Pattern.search" "search" ["string", "pos", "endpos"] 1 [v] [] = pure [some v, none, none] := by kernel_rfl
theorem code_search : ((tupItems.map reRawOf).map (·.toNat)) = rxCode := by decide +kernel

def target (x : Str) (t : Tok) : ReTarget := { pattern := .ref 36, string := .str x t, code := rxCode, text := x.cps, kind := 0, groups := 0, pos := 0, lim := x.cps.size }

theorem target_search {x : Str} {t : Tok} {Q : ReTarget → Shared → Prop} (hp : s.heap.get? 36 = some patObj) (hc : s.heap.get? 35 = some tupObj) (hx : x.length ≤ sizeLine) (h : Q (target x t) s) :
    wpAny (model prog w) A (reTarget "re.Pattern.search" "search" ⟨[.ref 36, .str x t], []⟩) Q E s := by
  unfold reTarget
  simp only
  rw [named_search]
  refine wpAny_bind (wpAny_pure ?_)
  simp only
  refine wpAny_bind (wpAny_pure (wpAny_bind (wpAny_pure (wpAny_bind (wpAny_fieldsOf hp rfl ?_)))))
  refine wpAny_bind (m := reTextOf (.str x t)) (wpAny_of_eq (a := (x.cps, 0)) rfl ?_)
  simp only
  refine wpAny_if_neg (by decide) ?_
  refine wpAny_if_neg (by decide) ?_
  refine wpAny_bind (m := reNoCollectionInside (.str x t) 0) (wpAny_of_eq (a := ()) rfl ?_)
  refine wpAny_bind (m := reRawItems (.ref 35)) (Q := _) ?_
  unfold reRawItems
  refine wpAny_bind (wpAny_seqItems hc rfl (wpAny_pure ?_))
  refine wpAny_pure ?_
  have e : (min (2 ^ 63 - 1 : Int).toNat x.cps.size) = x.cps.size := by
    have : x.cps.size ≤ 2 ^ 24 := hx
    have h2 : (2 ^ 63 - 1 : Int).toNat = 2 ^ 63 - 1 := by decide
    rw [h2]; omega
  have e0 : (min (0 : Int).toNat x.cps.size) = 0 := by simp
  rw [e, e0]
  show Q { pattern := .ref 36, string := .str x t, code := (tupItems.map reRawOf).map (·.toNat), text := x.cps, kind := 0, groups := 0, pos := 0, lim := x.cps.size } s
  rw [code_search]
  exact h

theorem reDrive_done (n : Nat) (m : Sre.M) (h : (m.runFor 4).outcome.isSome = true) : reDrive (n + 1) m = pure (m.runFor 4) := by
  rw [reDrive]
  show (if (m.runFor 4).outcome.isSome = true then pure (m.runFor 4) else _) = _
  rw [if_pos h]

theorem runToEnd {m : Sre.M} {o : Sre.Outcome} {Q : Option Sre.M → Shared → Prop} (ho : (m.runFor 4).outcome = some o)
    (h1 : o = .matched → Q (some (m.runFor 4)) s) (h2 : o = .failed → Q none s) (h3 : ∀ y, o ≠ .stuck y) : wpAny (model prog w) A (reRunToEnd m) Q E s := by
  unfold reRunToEnd
  rw [show (2 ^ 64 : Nat) = 18446744073709551615 + 1 from rfl, reDrive_done _ m (by rw [ho]; rfl)]
  refine wpAny_bind (wpAny_pure (wpAny_bind ?_))
  refine wpAny_forIn_list _ (fun _ _ s' => s' = s) _ ?_ ?_ _ _ rfl
  · rintro x rest b s' rfl
    split
    · exact wpAny_bind (wpAny_rule (wpAny_pure rfl))
    · exact wpAny_pure rfl
  · rintro b s' rfl
    rw [ho]
    cases o with
    | matched => exact wpAny_pure (h1 rfl)
    | failed => exact wpAny_pure (h2 rfl)
    | stuck y => exact absurd rfl (h3 y)

theorem search_tree {x : Str} {t : Tok} {Q : Value → Shared → Prop} (hp : s.heap.get? 36 = some patObj) (hc : s.heap.get? 35 = some tupObj) (hx : x.length ≤ sizeLine)
    (h : ∀ v s', (if x.cps.toList.all safeC then v = Value.none else ∃ a, v = .ref a) → Keeps s s' → Q v s') :
    wpAny (model prog w) A (Builtin.«re.Pattern.search» ⟨[.ref 36, .str x t], []⟩) (fun fin s' => ∃ v, fin = .done (.ret v) ∧ Q v s') E s := by
  unfold Builtin.«re.Pattern.search»
  refine wpAny_bind (target_search hp hc hx ?_)
  unfold reAnswer
  have hr := rx_run x.cps
  cases ha : x.cps.toList.all safeC with
  | true =>
    rw [ha] at h hr
    refine wpAny_bind (runToEnd (m := Sre.forSearch rxCode x.cps 0 0 x.cps.size false) hr nofun (fun _ => ?_) nofun)
    exact wpAny_pure ⟨_, rfl, h _ _ rfl ⟨s.heap, s.toks, rfl, fun _ _ e => e⟩⟩
  | false =>
    rw [ha] at h hr
    refine wpAny_bind (runToEnd (m := Sre.forSearch rxCode x.cps 0 0 x.cps.size false) hr (fun _ => ?_) nofun nofun)
    show wpAny _ _ (reNewMatch _ _ 0 _ _ _ >>= fun v => ret v) _ _ _
    unfold reNewMatch
    simp only [List.range_zero, List.flatMap_nil, List.any_nil, Bool.false_eq_true, if_false]
    refine wpAny_bind (wpAny_bind ?_)
    unfold newTuple
    refine wpAny_newObj_type ?_ (by size_fits)
    unfold newFields
    refine wpAny_newObj_type ?_ (by size_fits)
    refine wpAny_pure ⟨_, rfl, h _ _ ⟨_, rfl⟩ ⟨_, s.toks, rfl, fun b o e => Heap.get?_push_of_some _ (Heap.get?_push_of_some _ e)⟩⟩

theorem search_call {x : Str} {t : Tok} {Q : Value → Shared → Prop} (hf : s.heap.get? 44 = some findObj) (hp : s.heap.get? 36 = some patObj) (hc : s.heap.get? 35 = some tupObj) (hx : x.length ≤ sizeLine)
    (h : ∀ v s', (if x.cps.toList.all safeC then v = Value.none else ∃ a, v = .ref a) → Keeps s s' → Q v s') :
    wpAny (model prog w) A (call (.ref 44) [.str x t] []) Q E s := by
  refine wpAny_call (codeAny_of_tree ?_)
  show wpAny _ A.in1 (callAny (.ref 44) ⟨[.str x t], []⟩) _ _ s
  simp only [callAny]
  refine wpAny_bind (wpAny_load hf ?_)
  simp only [findObj, show (Value.type "builtin_function_or_method" == Value.type "method" || Value.type "builtin_function_or_method" == Value.type "builtin_function_or_method" || Value.type "builtin_function_or_method" == Value.type "method-wrapper") = true by decide, if_true]
  refine wpAny_if_pos (by decide) ?_
  refine wpAny_bind (check_search hp ?_)
  refine wpAny_bind (wpAny_pure (wpAny_pure ?_))
  refine ⟨quiet_search _, codeAny_builtin entry_search ?_⟩
  rw [under_search]
  refine wpAny_mono (search_tree hp hc hx h) ?_ fun _ _ e => e
  rintro fin s' ⟨v, rfl, hv⟩
  exact hv
end
end Mine

open PySem PySem.W PyProof.Rows
set_option maxRecDepth 100000

namespace Mine
set_option maxHeartbeats 8000000 in
open_top hd for PySem.Challenge.rw_mj0031_01
end Mine
open PySem PySem.W PyProof.Rows
set_option maxRecDepth 100000
namespace Mine

noncomputable abbrev KH (w : World) : Frag := hd.heap_39 w.params

/-- what every heap of the walk holds -/
structure Cx (w : World) (mg mb : Str → Option Value) (h : Heap) : Prop where
  X : (KH w).In h
  g : h.Ns mainGlobals mg
  b : h.Ns builtinsNs mb
  bi : ∀ x : Str, x ≠ "__name__" → mb x = bootBuiltins x
  lim : h.NoLimit

theorem Cx.keeps {w : World} {mg mb : Str → Option Value} {h h' : Heap} (C : Cx w mg mb h) (hk : ∀ b o, h.get? b = some o → h'.get? b = some o) : Cx w mg mb h' :=
  ⟨fun a o e => hk _ _ (C.X a o e), C.g.keeps hk, C.b.keeps hk, C.bi, C.lim.keeps hk⟩

theorem nm_quote (w : World) : nsIn (KH w) mainGlobals "quote" = some (some (.ref 51)) := by kernel_rfl
theorem nm_find (w : World) : nsIn (KH w) mainGlobals "_find_unsafe" = some (some (.ref 44)) := by kernel_rfl
theorem nm_join (w : World) : nsIn (KH w) mainGlobals "join" = some (some (.ref 43)) := by kernel_rfl
theorem nm_cmp (w : World) : nsIn (KH w) mainGlobals "three_way_cmp" = some (some (.ref 58)) := by kernel_rfl
theorem nm_lists (w : World) : nsIn (KH w) mainGlobals "_law_lists" = some (some (.ref 65)) := by kernel_rfl
theorem nm_bare (w : World) : nsIn (KH w) mainGlobals "_law_is_bare" = some (some (.ref 70)) := by kernel_rfl
theorem nm_part (w : World) : nsIn (KH w) mainGlobals "_law_parting" = some (some (.ref 77)) := by kernel_rfl
theorem nm_order (w : World) : nsIn (KH w) mainGlobals "_law_order" = some (some (.ref 84)) := by kernel_rfl
theorem nm_len (w : World) : nsIn (KH w) mainGlobals "len" = some none := by kernel_rfl
theorem nm_min (w : World) : nsIn (KH w) mainGlobals "min" = some none := by kernel_rfl
theorem nm_ord (w : World) : nsIn (KH w) mainGlobals "ord" = some none := by kernel_rfl
theorem nm_chr (w : World) : nsIn (KH w) mainGlobals "chr" = some none := by kernel_rfl
theorem nm_list (w : World) : nsIn (KH w) mainGlobals "list" = some none := by kernel_rfl
theorem nm_range (w : World) : nsIn (KH w) mainGlobals "range" = some none := by kernel_rfl
theorem nm_isinstance (w : World) : nsIn (KH w) mainGlobals "isinstance" = some none := by kernel_rfl
theorem nm_bool (w : World) : nsIn (KH w) mainGlobals "bool" = some none := by kernel_rfl

theorem at44 (w : World) : (KH w).lookup 44 = some findObj := rfl
theorem at36 (w : World) : (KH w).lookup 36 = some patObj := rfl
theorem at35 (w : World) : (KH w).lookup 35 = some tupObj := rfl

section
variable {prog : Program} {w : World} {A : Around} {E : Value → Shared → Prop} {s : Shared} {mg mb : Str → Option Value} {h₀ : Heap} {L a : Addr} {m : Str → Option Value} {name : Str} {scope : Scope} {cd : Value}

/-- a global of the text -/
theorem glob {x : Str} {pos : Pos} {v : Value} {Q : Value → Shared → Prop} (C : Cx w mg mb h₀) (F : Fr h₀ L s.heap m) (e : nsIn (KH w) mainGlobals x = some (some v)) (h : Q v s)
    (hk : scope.kind = .function := by rfl) (hx : (envOf name scope L a cd).kindOf x = some .globalImplicit := by rfl) (hd : (x == ("__debug__" : Str)) = false := by decide) :
    wpAny (model prog w) A (eval (.Name x pos) (envOf name scope L a cd)) Q E s := ld_global_at F C.g (mg_of C.X C.g e) h hk hx hd
/-- a built-in name -/
theorem blt {x : Str} {pos : Pos} {v : Value} {Q : Value → Shared → Prop} (C : Cx w mg mb h₀) (F : Fr h₀ L s.heap m) (e : nsIn (KH w) mainGlobals x = some none) (hv : bootBuiltins x = some v) (h : Q v s) (hn : x ≠ "__name__" := by decide)
    (hk : scope.kind = .function := by rfl) (hx : (envOf name scope L a cd).kindOf x = some .globalImplicit := by rfl) (hd : (x == ("__debug__" : Str)) = false := by decide) :
    wpAny (model prog w) A (eval (.Name x pos) (envOf name scope L a cd)) Q E s := ld_builtin_at F C.g (mg_none_of C.X C.g e) C.b ((C.bi x hn).trans hv) h hk hx hd

/-- a call of one of the text's defs that ends -/
theorem call_def {name : Str} {params : Arguments} {body : List Stmt} {scope : Scope} {pm cd doc : Value} {f : Addr} {args : List Value} {binds : List (Str × Value)} {Q : Value → Shared → Prop} {oc : Value} {od : Option Addr} {osl : Array (Option Value)}
    (C : Cx w mg mb s.heap) (ho : (KH w).lookup f = some ⟨oc, od, .func (Calls.docDef name params body scope pm cd doc), osl⟩) (hcd : codeIn (KH w) cd name = true) (hroom : A.depth < recursionLimit)
    (hbind : bindArgs (Calls.docDef name params body scope pm cd doc) ⟨args, []⟩ = pure binds)
    (hloc : (binds.all fun x => decide (scope.names.lookup x.1 = some .local)) = true)
    (h : ∀ h₁, Fr s.heap s.heap.objs.size h₁ (fun x => binds.reverse.lookup x) →
      wpAny (model prog w) (A.deeper (envOf name scope s.heap.objs.size f cd)) (execs body (envOf name scope s.heap.objs.size f cd))
        (fun f s' => Q (match f with | .ret v => v | _ => .none) s') (fun _ _ => False)
        { s with heap := h₁, toks := s.toks + binds.length })
    (hco : scope.isCoroutine = false := by rfl) (hgen : scope.isGenerator = false := by rfl) (hk : scope.kind = .function := by rfl)
    (hcell : ∀ x ∈ scope.names, x.2 ≠ .cell := by decide) :
    wpAny (model prog w) A (call (.ref f) args) Q E s :=
  wpAny_call (call_plain_ret hroom (C.X _ _ ho) rfl C.lim (codeRec_of C.X hcd) hbind (locs hloc) h hco hgen hk hcell)
end
end Mine

open PySem PySem.W PyProof.Rows
set_option maxRecDepth 100000
namespace Mine

def quoteS (x : Str) : Str := ⟨(quoteL x.cps.toList).toArray⟩
theorem quoteS_cps (x : Str) : (quoteS x).cps.toList = quoteL x.cps.toList := by simp [quoteS]

theorem repL_free : ∀ l : List Nat, 39 ∉ l → repL l = l
  | [], _ => rfl
  | k :: r, h => by
    have h1 : ¬ k = 39 := fun e => h (e ▸ List.mem_cons_self ..)
    have h2 : 39 ∉ r := fun m => h (List.mem_cons_of_mem _ m)
    rw [repL_cons, repL_free r h2]
    simp [repC, h1]
theorem rep_join : ∀ parts : List Str, (∀ p ∈ parts, 39 ∉ p.cps.toList) → repL (Str.join ⟨#[39]⟩ parts).cps.toList = (Str.join ⟨#[39, 34, 39, 34, 39]⟩ parts).cps.toList
  | [], _ => rfl
  | [p], h => repL_free _ (h p (List.mem_singleton.mpr rfl))
  | p :: q :: r, h => by
    have ih := rep_join (q :: r) fun a ha => h a (List.mem_cons_of_mem _ ha)
    show repL (p ++ ⟨#[39]⟩ ++ Str.join ⟨#[39]⟩ (q :: r)).cps.toList = (p ++ ⟨#[39, 34, 39, 34, 39]⟩ ++ Str.join ⟨#[39, 34, 39, 34, 39]⟩ (q :: r)).cps.toList
    simp only [Str.cps_append, Array.toList_append]
    rw [repL_app, repL_app, ih, repL_free _ (h p (List.mem_cons_self ..))]
    rfl
theorem replace_rep (x : Str) : (Txt.replace x (Str.ofString "'") (Str.ofString "'\"'\"'")).cps.toList = repL x.cps.toList := by
  rw [show Str.ofString "'" = ⟨#[39]⟩ from by decide +kernel, show Str.ofString "'\"'\"'" = ⟨#[39, 34, 39, 34, 39]⟩ from by decide +kernel]
  rw [StrLaws.replace_one, ← rep_join _ (StrLaws.split_free x 39), StrLaws.join_split]
theorem str_ext {x y : Str} (h : x.cps.toList = y.cps.toList) : x = y := by
  cases x; cases y
  simp only [Str.mk.injEq]
  exact Array.toList_inj.mp h
theorem quoted_eq (x : Str) (hb : bareL x.cps.toList = false) : Str.ofString "'" ++ Txt.replace x (Str.ofString "'") (Str.ofString "'\"'\"'") ++ Str.ofString "'" = quoteS x := by
  apply str_ext
  rw [quoteS_cps, quote_not hb, Str.cps_append, Str.cps_append, Array.toList_append, Array.toList_append, replace_rep, show (Str.ofString "'").cps.toList = [39] from by decide +kernel]
  simp
theorem repL_len : ∀ l : List Nat, (repL l).length ≤ 5 * l.length
  | [] => Nat.le_refl _
  | k :: r => by
    have := repL_len r
    rw [repL_cons, List.length_append, List.length_cons]
    have h1 : (repC k).length ≤ 5 := by unfold repC; split <;> simp
    omega
theorem quoteL_len (l : List Nat) : (quoteL l).length ≤ 5 * l.length + 2 := by
  unfold quoteL
  split
  · omega
  · have := repL_len l
    simp only [List.length_cons, List.length_append, List.length_nil]
    omega

section
variable {prog : Program} {w : World} {A : Around} {E : Value → Shared → Prop} {s : Shared} {mg mb : Str → Option Value}

theorem kp_refl (s : Shared) : Keeps s s := ⟨s.heap, s.toks, rfl, fun _ _ e => e⟩
theorem kp_trans {s s' s'' : Shared} (a : Keeps s s') (b : Keeps s' s'') : Keeps s s'' := by
  obtain ⟨h1, t1, rfl, k1⟩ := a
  obtain ⟨h2, t2, rfl, k2⟩ := b
  exact ⟨h2, t2, rfl, fun b o e => k2 b o (k1 b o e)⟩
theorem kp_heap {s s' : Shared} (k : Keeps s s') : ∀ b o, s.heap.get? b = some o → s'.heap.get? b = some o := by
  obtain ⟨h1, t1, rfl, k1⟩ := k; exact k1
theorem kp_fr {s : Shared} {L : Addr} {h : Heap} {m : Str → Option Value} (F : Fr s.heap L h m) (tk : Nat) : Keeps s { s with heap := h, toks := tk } := ⟨h, tk, rfl, F.keep⟩
theorem fr_kp {h₀ : Heap} {L : Addr} {s s' : Shared} {m : Str → Option Value} (F : Fr h₀ L s.heap m) (k : Keeps s s') : Fr h₀ L s'.heap m := F.keeps (kp_heap k)

theorem callWith_find {pos : Pos} {env : Env} {e : Expr} {rest : List Expr} {Q : Value → Shared → Prop}
    (h : wpAny (model prog w) A (spliced (backTo pos (starEach (e :: rest) env))) (fun vs s₁ => s₁.heap.get? 44 = some findObj ∧ wpAny (model prog w) A (call (.ref 44) vs) Q E s₁) E s)
    (he : starEach (e :: rest) env = (false, eval e env) :: starEach rest env := by rfl) (hplain : (backTo pos (starEach rest env)).any (·.1) = false := by rfl) :
    wpAny (model prog w) A (callWith pos (.ref 44) [] (backTo pos (starEach (e :: rest) env)) []) Q E s := by
  rw [he] at h ⊢
  unfold callWith
  refine wpAny_bind (wpAny_holding (wpAny_mono (Calls.evalArgs_plain (wpAny_mono h (fun vs s₁ h₁ => ?_) fun _ _ x => x) (Q := fun x s₁ => s₁.heap.get? 44 = some findObj ∧ wpAny (model prog w) A (call (.ref 44) x.pos x.kw) Q E s₁)) (fun x s₁ h₁ => wpAny_bind (wpAny_standAt ?_)) fun _ _ x => x))
  · exact h₁
  obtain ⟨ho, hcall⟩ := h₁
  have hpl : (backTo pos ((false, eval e env) :: starEach rest env)).any (·.1) = false := by show (false || (backTo pos (starEach rest env)).any (·.1)) = false; rw [hplain]; rfl
  simp only [hpl, List.any_nil, Bool.or_false]
  refine wpAny_bind (m := keeperOf (.ref 44)) ?_
  unfold keeperOf
  refine wpAny_bind (wpAny_load ho ?_)
  simp only [findObj, show (Value.type "builtin_function_or_method" != Value.type "method") = true by decide, show (Value.type "builtin_function_or_method" == Value.type "builtin_function_or_method" || Value.type "builtin_function_or_method" == Value.type "method-wrapper") = true by decide, if_true]
  refine wpAny_pure ?_
  exact wpAny_bind (wpAny_mono hcall (fun r s₂ hr => wpAny_bind (wpAny_holding (wpAny_point (wpAny_pure hr)))) fun _ _ x => x)

theorem quote_call {x : Str} {t : Tok} {Q : Value → Shared → Prop} (C : Cx w mg mb s.heap) (hroom : A.depth < recursionLimit) (hx : x.length ≤ 1048576)
    (h : ∀ t' s', Keeps s s' → Q (.str (quoteS x) t') s') : wpAny (model prog w) A (call (.ref 51) [.str x t]) Q E s := by
  refine call_def (binds := [(Str.ofString "s", .str x t)]) C rfl rfl hroom rfl rfl fun h₁ F => ?_
  have C₁ : Cx w mg mb h₁ := C.keeps F.keep
  have hs63 : ¬ (x.length : Int) ≥ 2 ^ 63 := by omega
  refine wpAny_execs_cons (wpAny_If (isTrue_not (isTrue_plain (ld F rfl (P.truthy_str hs63 ?_)))))
  by_cases h0 : x.length = 0
  · have hb : (!((x.length : Int) != 0)) = true := by simp [h0]
    rw [hb, if_pos rfl]
    refine wpAny_execs_cons (wpAny_Return_some (wpAny_Constant_str ?_))
    have e : quoteS x = Str.ofString "''" := by
      apply str_ext
      have hl : x.cps.toList = [] := by
        apply List.eq_nil_of_length_eq_zero
        simpa [Str.length] using h0
      rw [quoteS_cps, hl]
      decide +kernel
    rw [← e]
    exact h _ _ (kp_fr F _)
  · have hb : (!((x.length : Int) != 0)) = false := by simp; omega
    rw [hb, if_neg Bool.false_ne_true]
    refine wpAny_execs_nil (wpAny_execs_cons (wpAny_If (wpAny_isTrue_Compare1 (Call_ (glob C F (nm_find w) (callWith_find (spliced_more (ld F rfl (spliced_none ⟨C₁.X _ _ (at44 w), ?_⟩)))))))))
    refine wpAny_with_toks (n := 1) (by show 1 ≤ s.toks + 1 + 1 + 1; omega) (search_call (C₁.X _ _ (at44 w)) (C₁.X _ _ (at36 w)) (C₁.X _ _ (at35 w)) (by rw [sizeLine_eq]; omega) fun v s₂ hv K₂ htk => ?_)
    have F₂ := fr_kp F K₂
    have K₀ : Keeps s s₂ := kp_trans (kp_fr F _) K₂
    refine wpAny_Constant_none ?_
    cases ha : x.cps.toList.all safeC with
    | true =>
      rw [ha] at hv
      subst hv
      refine wpAny_is_self rfl (wpAny_truthy_bool ?_)
      rw [if_pos rfl]
      refine wpAny_execs_cons (wpAny_Return_some (ld F₂ rfl ?_))
      have hbare : bareL x.cps.toList = true := by
        unfold bareL
        rw [ha]
        have : x.cps.toList ≠ [] := fun e => h0 (by have := congrArg List.length e; simpa [Str.length] using this)
        simpa using this
      have e : quoteS x = x := str_ext (by rw [quoteS_cps, quote_bare hbare])
      have := h t s₂ K₀
      rw [e] at this
      exact this
    | false =>
      rw [ha] at hv
      obtain ⟨b, rfl⟩ := hv
      refine wpAny_is_other rfl (by simp) (wpAny_truthy_bool ?_)
      rw [if_neg Bool.false_ne_true]
      have hbare : bareL x.cps.toList = false := by unfold bareL; rw [ha, Bool.and_false]
      have hz : (Str.ofString "'\"'\"'").length = 5 := by decide +kernel
      have hy : (Str.ofString "'").length = 1 := by decide +kernel
      have hrl : (Txt.replace x (Str.ofString "'") (Str.ofString "'\"'\"'")).length ≤ 5 * x.length := by
        have e := congrArg List.length (replace_rep x)
        have := repL_len x.cps.toList
        simp only [Array.length_toList] at e this
        unfold Str.length
        omega
      refine wpAny_execs_nil (wpAny_execs_cons (wpAny_Return_some (wpAny_BinOp (wpAny_BinOp (wpAny_Constant_str (MethodCall_ (ld F₂ rfl (GM.replace (callWith_method1 (spliced_more (wpAny_Constant_str (spliced_more (wpAny_Constant_str (spliced_none ?_))))))))))))))
      refine SC.replace (by show s₂.toks + 1 ≠ 0; omega) (by show s₂.toks + 1 + 1 ≠ 0; omega) (by show s₂.toks + 1 ≠ s₂.toks + 1 + 1; omega) (by decide +kernel) (by rw [hz]; omega) fun t' k => ?_
      refine add_str (fun t2 k2 => ?_) (by rw [sizeLine_eq, hy]; omega)
      refine wpAny_Constant_str (add_str (fun t3 k3 => ?_) (by rw [sizeLine_eq, Str.length_append, hy]; omega))
      rw [quoted_eq x hbare]
      exact h _ _ (kp_trans K₀ ⟨_, k3, rfl, fun _ _ e => e⟩)
end
end Mine

open PySem PySem.W PyProof.Rows
set_option maxRecDepth 100000
namespace Mine

def safeStr : Str := Str.ofString "abcdefghijklmnopqrstuvwxyzABCDEFGHIJKLMNOPQRSTUVWXYZ0123456789_@%+=:,./-"
theorem safe_small : ∀ c, c < 128 → decide (c ∈ safeStr.cps.toList) = safeC c := by decide +kernel
theorem safe_low : ∀ c ∈ safeStr.cps.toList, c < 128 := by decide +kernel
theorem mem_safe (c : Nat) : decide (c ∈ safeStr.cps.toList) = safeC c := by
  by_cases h : c < 128
  · exact safe_small c h
  · have h1 : ¬ c ∈ safeStr.cps.toList := fun m => h (safe_low c m)
    rw [decide_eq_false h1]
    simp [safeC]; omega

def badSign : Value → Bool
  | .str y _ => !(y.cps.toList.all safeC)
  | _ => false

section
variable {prog : Program} {w : World} {A : Around} {E : Value → Shared → Prop} {s : Shared} {mg mb : Str → Option Value}

theorem cmp_call {x y : Str} {t u : Tok} {Q : Value → Shared → Prop} (C : Cx w mg mb s.heap) (hroom : A.depth < recursionLimit)
    (h : ∀ t' s', Keeps s s' → Q (.int (three x.cps.toList y.cps.toList) t') s') : wpAny (model prog w) A (call (.ref 58) [.str x t, .str y u]) Q E s := by
  refine call_def (binds := [(Str.ofString "x", .str x t), (Str.ofString "y", .str y u)]) C rfl rfl hroom rfl rfl fun h₁ F => ?_
  refine wpAny_execs_cons (wpAny_Return_some (wpAny_BinOp (wpAny_Compare1 (ld F rfl (ld F rfl (P.gt_str (wpAny_Compare1 (ld F rfl (ld F rfl (PyProof.Rows.lt_str (sub_bool ?_)))))))))))
  have e : b2i (decide (y.cps.toList < x.cps.toList)) - b2i (decide (x.cps.toList < y.cps.toList)) = three x.cps.toList y.cps.toList := by
    unfold three b2i
    simp
  rw [e]
  exact h _ _ (kp_fr F _)

theorem eq_nil {l b : Addr} {items : Array Value} {Q : Value → Shared → Prop} (hl : s.heap.IsList l items) (hb : s.heap.IsList b #[]) (hu : A.units < cLine) (h : Q (.bool (items.size == 0)) s) :
    wpAny (model prog w) A (compareOp .Eq (.ref l) (.ref b)) Q E s := by
  by_cases h0 : items.size = 0
  · refine SeqAt.eq_listAt (e := fun _ => true) hl hb (by simp [h0]) hu (fun j h1 h2 => absurd h2 (by simp)) ?_
    rw [h0] at h ⊢
    exact h
  · refine SeqAt.eq_list_lengthsAt hl hb (by simp [h0]) hu ?_
    have e : (items.size == 0) = false := by simp [h0]
    rw [e] at h; exact h

theorem paired_size {F : Value → Value → Prop} {l : List Value} {ys : Array Value} (h : Paired F l ys.toList) : ys.size = l.length := by
  have := h.length; simp at this; omega

theorem bare_call {x : Str} {t : Tok} {Q : Value → Shared → Prop} (C : Cx w mg mb s.heap) (hroom : A.depth < recursionLimit) (hh : A.handled = none) (hu : A.units + 3 < cLine) (hx : x.length ≤ 1048576)
    (h : ∀ s', Keeps s s' → Q (.bool (bareL x.cps.toList)) s') : wpAny (model prog w) A (call (.ref 70) [.str x t]) Q E s := by
  refine wpAny_call (call_cells_ret (binds := [(Str.ofString "word", .str x t)]) hroom (C.X 70 _ rfl) rfl C.lim (codeRec_of C.X rfl) rfl (by
    intro y hy; left
    obtain rfl := List.mem_singleton.mp hy
    rfl) fun h₁ tk F X => ?_)
  refine wpAny_execs_cons (wpAny_Assign_Name (wpAny_Constant_str (stC F X rfl fun h₂ F₂ X₂ => ?_)))
  refine wpAny_execs_cons (wpAny_Return_some (BoolOp_and (wpAny_Compare1 (ldLoc F₂ rfl (wpAny_Constant_str (PyProof.Rows.ne_str (wpAny_truthy_bool ?_)))))))
  by_cases h0 : x.length = 0
  · have e : (x != Str.ofString "") = false := by
      have hl : x = Str.ofString "" := by
        apply str_ext
        have hl : x.cps.toList = [] := by
          apply List.eq_nil_of_length_eq_zero
          simpa [Str.length] using h0
        rw [hl]; decide +kernel
      rw [hl]; decide +kernel
    rw [e, if_neg Bool.false_ne_true]
    have hb : bareL x.cps.toList = false := by
      have hl : x.cps.toList = [] := by
        apply List.eq_nil_of_length_eq_zero
        simpa [Str.length] using h0
      rw [hl]; rfl
    rw [← hb]
    exact h _ (kp_fr F₂ _)
  · have e : (x != Str.ofString "") = true := by
      simp only [bne_iff_ne]
      intro hl
      apply h0; rw [hl]; decide +kernel
    rw [e, if_pos rfl]
    refine BoolOp_one (wpAny_Compare1 (wpAny_ListComp_free badSign (fun _ _ => True) rfl (by decide) rfl (by decide) rfl (ldLoc F₂ rfl (wpAny_pyIter_str fun o St W hst => ?_))))
    have hcell : h₂.IsCell (s.heap.objs.size + 1) (some (.str safeStr (tk))) := X₂.cell (Str.ofString "safe") _ rfl
    refine ⟨h₂.objs.size, [h₂.objs.size], [h₂.objs.size], x.cps.size, SignAt x, St, rfl, W _ hh, by rw [sizeLine_eq]; exact Nat.le_trans hx (by decide), hst, ?_, ⟨?_, ?_⟩, ?_⟩
    · intro b hb
      rw [List.mem_singleton.mp hb]
      show h₂.objs.size < (h₂.push o).objs.size
      rw [Heap.size_push]; exact Nat.lt_succ_self _
    · intro C' i v s₃ m₃ E' hC hP hn hm hk _
      obtain ⟨c, u, hc, rfl⟩ := hP
      have hcell₃ : s₃.heap.IsCell (s.heap.objs.size + 1) (some (.str safeStr (tk))) := by
        obtain ⟨oc, ho, hd⟩ := hcell
        exact ⟨oc, hk _ _ (old_not_new ho) (Heap.get?_push_of_some _ ho), hd⟩
      refine wpAny_tests_one (wpAny_isTrue_Compare1 (wpAny_Name (wpAny_loadName_local rfl rfl hn hm (wpAny_Name (wpAny_loadName_cell rfl rfl rfl hcell₃ (PyProof.Rows.notIn_str (wpAny_truthy_bool ?_)))))))
      rw [StrLaws.found_one, mem_safe]
      refine ⟨?_, kp_refl _⟩
      simp [badSign]
    · intro C' i v s₃ m₃ E' hC hP hp hn hm hk _
      exact wpAny_Name (wpAny_loadName_local rfl rfl hn hm ⟨trivial, kp_refl _⟩)
    · intro D h₃ tk₃ ys vs hD hl hpl hlen hPs hF hk
      have kp : ∀ b ob, h₂.get? b = some ob → h₃.get? b = some ob := fun b ob e => hk b ob (old_not_new e) (Heap.get?_push_of_some _ e)
      refine List_ (spliced_none (wpAny_newObj_type ?_ (by size_fits)))
      have hl' : (h₃.push { cls := .type "list", dict := none, data := .seq ([] : List Value).toArray }).IsList D ys := hl.push _
      refine eq_nil hl' ⟨_, Heap.get?_push_size _ rfl, rfl, _, rfl⟩ hu ?_
      have eb : (ys.size == 0) = bareL x.cps.toList := by
        have hne : x.cps.toList ≠ [] := fun e => h0 (by have := congrArg List.length e; simpa [Str.length] using this)
        have hb : bareL x.cps.toList = x.cps.toList.all safeC := by
          unfold bareL
          cases hq : x.cps.toList with
          | nil => exact absurd hq hne
          | cons a r => rfl
        rw [hb, paired_size hF, Bool.eq_iff_iff]
        simp only [beq_iff_eq, List.length_eq_zero_iff, List.filter_eq_nil_iff, List.all_eq_true]
        constructor
        · intro hv c hc
          obtain ⟨i, hi, rfl⟩ := List.mem_iff_getElem.mp hc
          have hi' : i < vs.length := by rw [hlen]; simpa using hi
          obtain ⟨c', u, hc', hvi⟩ := hPs i vs[i] (List.getElem?_eq_getElem hi')
          have := hv vs[i] (List.getElem_mem hi')
          rw [hvi] at this
          have e2 : c' = x.cps.toList[i] := by
            have : x.cps[i]? = some x.cps.toList[i] := by simp
            rw [this] at hc'; exact (Option.some.inj hc').symm
          simpa [badSign, e2] using this
        · intro hc v hv
          obtain ⟨i, hi, rfl⟩ := List.mem_iff_getElem.mp hv
          obtain ⟨c', u, hc', hvi⟩ := hPs i vs[i] (List.getElem?_eq_getElem hi)
          rw [hvi]
          have : safeC c' = true := hc c' (by
            have := Array.mem_of_getElem? hc'
            simpa using this)
          simp [badSign, this]
      rw [eb]
      refine h _ (kp_trans (kp_fr F₂ tk) ⟨_, tk₃, rfl, fun b ob e => Heap.get?_push_of_some _ (kp b ob e)⟩)
end
end Mine

open PySem PySem.W PyProof.Rows
set_option maxRecDepth 100000
namespace Mine

theorem part_at {α : Type} [DecidableEq α] : ∀ (k : Nat) (a b : List α), a.take k = b.take k → k ≤ a.length → k ≤ b.length → (k < a.length → k < b.length → a[k]? ≠ b[k]?) → part a b = k
  | 0, [], _, _, _, _, _ => rfl
  | 0, _ :: _, [], _, _, _, _ => rfl
  | 0, x :: a, y :: b, _, _, _, h => by
    have : x ≠ y := fun e => h (by simp) (by simp) (by simp [e])
    simp [part, this]
  | k + 1, [], _, _, h, _, _ => by simp at h
  | k + 1, _ :: _, [], _, _, h, _ => by simp at h
  | k + 1, x :: a, y :: b, ht, h1, h2, h => by
    simp only [List.take_succ_cons, List.cons.injEq] at ht
    obtain ⟨rfl, ht⟩ := ht
    have := part_at k a b ht (by simpa using h1) (by simpa using h2) (fun q1 q2 => by simpa using h (by simpa using q1) (by simpa using q2))
    simp [part, this]
theorem take_more {α : Type} {k : Nat} {a b : List α} (h : a.take k = b.take k) (he : a[k]? = b[k]?) : a.take (k + 1) = b.take (k + 1) := by
  rw [List.take_add_one, List.take_add_one, h, he]

theorem one_beq (c d : Nat) : ((⟨#[c]⟩ : Str) == ⟨#[d]⟩) = decide (c = d) := by
  rw [Bool.eq_iff_iff]; simp

section
variable {prog : Program} {w : World} {A : Around} {E : Value → Shared → Prop} {s : Shared} {mg mb : Str → Option Value}

theorem seqIndex_nat {k n : Nat} (h : k < n) : seqIndex? (k : Int) n = some k := by
  unfold seqIndex?
  have h1 : ¬ ((k : Int) < 0) := by omega
  simp only [h1, if_false]
  have h2 : (decide ((0 : Int) ≤ (k : Int)) && decide ((k : Int) < (n : Int))) = true := by simp; omega
  rw [if_pos h2]; simp

theorem item_sign {value slice : Expr} {x : Str} {t u : Tok} {k : Nat} {Q : Value → Shared → Prop} (hx : x.length ≤ 1048576) (hk : k < x.cps.toList.length)
    (h : Q (.str ⟨#[x.cps.toList[k]]⟩ s.toks) { s with toks := s.toks + 1 })
    (hs : subscripted slice false (.str x t) (.int k u) = operate [.str x t, .int k u] (getItem (.str x t) (.int k u)) := by with_unfolding_all rfl) (hg : ∀ r, letTemporaryGo value (.str x t) r = pure () := by intro _; with_unfolding_all rfl) :
    wpAny (model prog w) A (subscriptTail value slice (.str x t) (.int k u)) Q E s := by
  have hk' : k < x.cps.size := by simpa using hk
  have hkl : k < x.length := hk'
  refine subscriptTail_builtin (typeIs_str s x t) slot_str_getitem.lookup (PyProof.Rows.getItem_str (by simp; omega) ?_ h) hs hg
  rw [seqIndex_nat hkl]
  simp [hk']

theorem part_strs {x y : Str} {t u : Tok} {Q : Value → Shared → Prop} (C : Cx w mg mb s.heap) (hroom : A.depth < recursionLimit) (hh : A.handled = none) (hx : x.length ≤ 1048576) (hy : y.length ≤ 1048576)
    (h : ∀ t' s', Keeps s s' → Q (.int (part x.cps.toList y.cps.toList : Nat) t') s') : wpAny (model prog w) A (call (.ref 77) [Value.str x t, Value.str y u]) Q E s := by
  refine call_def (binds := [(Str.ofString "first", Value.str x t), (Str.ofString "second", Value.str y u)]) C rfl rfl hroom rfl rfl fun h₁ F => ?_
  refine wpAny_execs_cons (wpAny_Assign_Name (wpAny_Constant_int (st F fun h₂ F₂ => ?_)))
  refine wpAny_execs_cons (wpAny_While (codeAny_whileLoop (fun n s' => ∃ h' tk m' k t', s' = { s with heap := h', toks := tk } ∧ Fr s.heap s.heap.objs.size h' m' ∧
    m' (Str.ofString "first") = some (Value.str x t) ∧ m' (Str.ofString "second") = some (Value.str y u) ∧ m' (Str.ofString "k") = some (.int (k : Nat) t') ∧
    k ≤ x.cps.toList.length ∧ k ≤ y.cps.toList.length ∧ x.cps.toList.take k = y.cps.toList.take k ∧ n = x.cps.toList.length - k) ?_ (x.cps.toList.length) ⟨h₂, _, _, 0, _, rfl, F₂, rfl, rfl, rfl, by simp, by simp, by simp, by simp⟩))
  rintro n s' ⟨h', tk, m', k, t', rfl, F', hm1, hm2, hmk, hk1, hk2, htake, rfl⟩
  refine isTrue_and (wpAny_isTrue_Compare1 (ld F' hmk (Call_ (blt C F' (nm_min w) boot_min (PyProof.Rows.callWith_builtin1 (spliced_more (Call_ (blt C F' (nm_len w) boot_len (PyProof.Rows.callWith_builtin1 (spliced_more (ld F' hm1 (spliced_none ?_))))))))))))
  refine PyProof.Rows.len_str (by omega) ?_
  rw [show x.length = x.cps.toList.length from by simp [Str.length]]
  refine spliced_more (Call_ (blt C F' (nm_len w) boot_len (PyProof.Rows.callWith_builtin1 (spliced_more (ld F' hm2 (spliced_none ?_))))))
  refine PyProof.Rows.len_str (by omega) ?_
  rw [show y.length = y.cps.toList.length from by simp [Str.length]]
  refine spliced_none (min_two_ints hh fun h₃ tk₃ hk₃ => ?_)
  have F₃ : Fr s.heap s.heap.objs.size h₃ m' := F'.keeps hk₃
  have emin : ∀ (u1 u2 : Tok), (if ((y.cps.toList.length : Nat) : Int) < (x.cps.toList.length : Nat) then Value.int (y.cps.toList.length : Nat) u2 else Value.int (x.cps.toList.length : Nat) u1) = .int (min x.cps.toList.length y.cps.toList.length : Nat) (if ((y.cps.toList.length : Nat) : Int) < (x.cps.toList.length : Nat) then u2 else u1) := by
    intro u1 u2
    split
    · rename_i q; rw [Nat.min_eq_right (by omega)]
    · rename_i q; rw [Nat.min_eq_left (by omega)]
  rw [emin]
  refine wpAny_lt_int (wpAny_truthy_bool ?_)
  by_cases hlt : k < x.cps.toList.length ∧ k < y.cps.toList.length
  · have hd : decide ((k : Int) < (min x.cps.toList.length y.cps.toList.length : Nat)) = true := decide_eq_true (by omega)
    rw [hd, if_pos rfl]
    refine isTrue_and (wpAny_isTrue_Compare1 (Subscript_ (ld F₃ hm1 (ld F₃ hmk ?_))))
    refine item_sign hx hlt.1 ?_
    refine Subscript_ (ld F₃ hm2 (ld F₃ hmk ?_))
    refine item_sign hy hlt.2 ?_
    refine PyProof.Rows.eq_str (wpAny_truthy_bool ?_)
    by_cases he : x.cps.toList[k]? = y.cps.toList[k]?
    · have hb : ((⟨#[x.cps.toList[k]'hlt.1]⟩ : Str) == ⟨#[y.cps.toList[k]'hlt.2]⟩) = true := by
        rw [one_beq]
        rw [List.getElem?_eq_getElem hlt.1, List.getElem?_eq_getElem hlt.2] at he
        simpa using he
      rw [hb, if_pos rfl]
      refine isTrue_and_nil ?_
      rw [if_pos rfl]
      refine wpAny_execs_cons (wpAny_AugAssign_Name (ldn F₃ hmk (wpAny_Constant_int (wpAny_iadd_int (st F₃ fun h₄ F₄ => ?_)))))
      refine wpAny_execs_nil ⟨x.cps.toList.length - (k + 1), by omega, h₄, _, _, k + 1, _, rfl, F₄, hm1, hm2, rfl, by omega, by omega, take_more htake he, rfl⟩
    · have hb : ((⟨#[x.cps.toList[k]'hlt.1]⟩ : Str) == ⟨#[y.cps.toList[k]'hlt.2]⟩) = false := by
        rw [one_beq]
        rw [List.getElem?_eq_getElem hlt.1, List.getElem?_eq_getElem hlt.2] at he
        simpa using he
      rw [hb, if_neg Bool.false_ne_true, if_neg Bool.false_ne_true]
      refine wpAny_execs_nil (wpAny_execs_cons (wpAny_Return_some (ld F₃ hmk ?_)))
      rw [← part_at k x.cps.toList y.cps.toList htake hk1 hk2 fun _ _ => he]
      exact h _ _ (kp_fr F₃ _)
  · have hd : decide ((k : Int) < (min x.cps.toList.length y.cps.toList.length : Nat)) = false := decide_eq_false (by omega)
    rw [hd, if_neg Bool.false_ne_true, if_neg Bool.false_ne_true]
    refine wpAny_execs_nil (wpAny_execs_cons (wpAny_Return_some (ld F₃ hmk ?_)))
    rw [← part_at k x.cps.toList y.cps.toList htake hk1 hk2 fun q1 q2 => absurd ⟨q1, q2⟩ hlt]
    exact h _ _ (kp_fr F₃ _)

theorem part_lists {la lb : Addr} {va vb : List Value} {ta tb : List Str} {Q : Value → Shared → Prop} (C : Cx w mg mb s.heap) (hroom : A.depth < recursionLimit) (hh : A.handled = none) (hla : s.heap.IsList la va.toArray) (hlb : s.heap.IsList lb vb.toArray) (hta : StrsAre va ta) (htb : StrsAre vb tb) (hna : ta.length ≤ 1048576) (hnb : tb.length ≤ 1048576)
    (h : ∀ t' s', Keeps s s' → Q (.int (part ta tb : Nat) t') s') : wpAny (model prog w) A (call (.ref 77) [Value.ref la, Value.ref lb]) Q E s := by
  refine call_def (binds := [(Str.ofString "first", Value.ref la), (Str.ofString "second", Value.ref lb)]) C rfl rfl hroom rfl rfl fun h₁ F => ?_
  refine wpAny_execs_cons (wpAny_Assign_Name (wpAny_Constant_int (st F fun h₂ F₂ => ?_)))
  refine wpAny_execs_cons (wpAny_While (codeAny_whileLoop (fun n s' => ∃ h' tk m' k t', s' = { s with heap := h', toks := tk } ∧ Fr s.heap s.heap.objs.size h' m' ∧
    m' (Str.ofString "first") = some (Value.ref la) ∧ m' (Str.ofString "second") = some (Value.ref lb) ∧ m' (Str.ofString "k") = some (.int (k : Nat) t') ∧
    k ≤ ta.length ∧ k ≤ tb.length ∧ ta.take k = tb.take k ∧ n = ta.length - k) ?_ (ta.length) ⟨h₂, _, _, 0, _, rfl, F₂, rfl, rfl, rfl, by simp, by simp, by simp, by simp⟩))
  rintro n s' ⟨h', tk, m', k, t', rfl, F', hm1, hm2, hmk, hk1, hk2, htake, rfl⟩
  refine isTrue_and (wpAny_isTrue_Compare1 (ld F' hmk (Call_ (blt C F' (nm_min w) boot_min (PyProof.Rows.callWith_builtin1 (spliced_more (Call_ (blt C F' (nm_len w) boot_len (PyProof.Rows.callWith_builtin1 (spliced_more (ld F' hm1 (spliced_none ?_))))))))))))
  refine len_list (F'.lst hla) (by have := hta.length; simp; omega) ?_
  rw [show va.toArray.size = ta.length from by rw [← hta.length]; simp]
  refine spliced_more (Call_ (blt C F' (nm_len w) boot_len (PyProof.Rows.callWith_builtin1 (spliced_more (ld F' hm2 (spliced_none ?_))))))
  refine len_list (F'.lst hlb) (by have := htb.length; simp; omega) ?_
  rw [show vb.toArray.size = tb.length from by rw [← htb.length]; simp]
  refine spliced_none (min_two_ints hh fun h₃ tk₃ hk₃ => ?_)
  have F₃ : Fr s.heap s.heap.objs.size h₃ m' := F'.keeps hk₃
  have emin : ∀ (u1 u2 : Tok), (if ((tb.length : Nat) : Int) < (ta.length : Nat) then Value.int (tb.length : Nat) u2 else Value.int (ta.length : Nat) u1) = .int (min ta.length tb.length : Nat) (if ((tb.length : Nat) : Int) < (ta.length : Nat) then u2 else u1) := by
    intro u1 u2
    split
    · rename_i q; rw [Nat.min_eq_right (by omega)]
    · rename_i q; rw [Nat.min_eq_left (by omega)]
  rw [emin]
  refine wpAny_lt_int (wpAny_truthy_bool ?_)
  by_cases hlt : k < ta.length ∧ k < tb.length
  · have hd : decide ((k : Int) < (min ta.length tb.length : Nat)) = true := decide_eq_true (by omega)
    rw [hd, if_pos rfl]
    refine isTrue_and (wpAny_isTrue_Compare1 (Subscript_ (ld F₃ hm1 (ld F₃ hmk ?_))))
    obtain ⟨u1, hu1⟩ := hta.get k ta[k] (List.getElem?_eq_getElem hlt.1)
    refine item_listL (F₃.lst hla) (by omega) (by omega) (by simpa using hu1) ?_
    refine Subscript_ (ld F₃ hm2 (ld F₃ hmk ?_))
    obtain ⟨u2, hu2⟩ := htb.get k tb[k] (List.getElem?_eq_getElem hlt.2)
    refine item_listL (F₃.lst hlb) (by omega) (by omega) (by simpa using hu2) ?_
    refine PyProof.Rows.eq_str (wpAny_truthy_bool ?_)
    by_cases he : ta[k]? = tb[k]?
    · have hb : (ta[k]'hlt.1 == tb[k]'hlt.2) = true := by
        rw [List.getElem?_eq_getElem hlt.1, List.getElem?_eq_getElem hlt.2] at he
        simpa using he
      rw [hb, if_pos rfl]
      refine isTrue_and_nil ?_
      rw [if_pos rfl]
      refine wpAny_execs_cons (wpAny_AugAssign_Name (ldn F₃ hmk (wpAny_Constant_int (wpAny_iadd_int (st F₃ fun h₄ F₄ => ?_)))))
      refine wpAny_execs_nil ⟨ta.length - (k + 1), by omega, h₄, _, _, k + 1, _, rfl, F₄, hm1, hm2, rfl, by omega, by omega, take_more htake he, rfl⟩
    · have hb : (ta[k]'hlt.1 == tb[k]'hlt.2) = false := by
        rw [List.getElem?_eq_getElem hlt.1, List.getElem?_eq_getElem hlt.2] at he
        simpa using he
      rw [hb, if_neg Bool.false_ne_true, if_neg Bool.false_ne_true]
      refine wpAny_execs_nil (wpAny_execs_cons (wpAny_Return_some (ld F₃ hmk ?_)))
      rw [← part_at k ta tb htake hk1 hk2 fun _ _ => he]
      exact h _ _ (kp_fr F₃ _)
  · have hd : decide ((k : Int) < (min ta.length tb.length : Nat)) = false := decide_eq_false (by omega)
    rw [hd, if_neg Bool.false_ne_true, if_neg Bool.false_ne_true]
    refine wpAny_execs_nil (wpAny_execs_cons (wpAny_Return_some (ld F₃ hmk ?_)))
    rw [← part_at k ta tb htake hk1 hk2 fun q1 q2 => absurd ⟨q1, q2⟩ hlt]
    exact h _ _ (kp_fr F₃ _)
end
end Mine

open PySem PySem.W PyProof.Rows
set_option maxRecDepth 100000
namespace Mine
def orderS (ta tb : List Str) : Int := listOrd (ta.map (·.cps.toList)) (tb.map (·.cps.toList))
theorem part_le {α : Type} [DecidableEq α] : ∀ a b : List α, part a b ≤ a.length ∧ part a b ≤ b.length
  | [], _ => ⟨Nat.le_refl _, Nat.zero_le _⟩
  | _ :: _, [] => ⟨Nat.zero_le _, Nat.le_refl _⟩
  | x :: a, y :: b => by
    have := part_le a b
    unfold part
    split
    · simp only [List.length_cons]; omega
    · simp
theorem part_map (ta tb : List Str) : part (ta.map (·.cps.toList)) (tb.map (·.cps.toList)) = part ta tb := by
  induction ta generalizing tb with
  | nil => rfl
  | cons x a ih =>
    cases tb with
    | nil => rfl
    | cons y b =>
      simp only [List.map_cons]
      unfold part
      by_cases h : x = y
      · subst h; simp [ih]
      · have : ¬ x.cps.toList = y.cps.toList := fun q => h (str_ext q)
        rw [if_neg h, if_neg this]
theorem part_ne {α : Type} [DecidableEq α] : ∀ (a b : List α) (h1 : part a b < a.length) (h2 : part a b < b.length), a[part a b] ≠ b[part a b]
  | [], _, h1, _ => by simp at h1
  | _ :: _, [], _, h2 => by simp at h2
  | x :: a, y :: b, h1, h2 => by
    by_cases h : x = y
    · subst h
      have e : part (x :: a) (x :: b) = part a b + 1 := by simp [part]
      simp only [e, List.getElem_cons_succ]
      exact part_ne a b (by simpa [e] using h1) (by simpa [e] using h2)
    · have e : part (x :: a) (y :: b) = 0 := by simp [part, h]
      simp only [e, List.getElem_cons_zero]
      exact h
theorem lo_0 {ta tb : List Str} (h1 : ta.length = part ta tb) (h2 : tb.length = part ta tb) : orderS ta tb = 0 := by
  unfold orderS listOrd
  rw [part_map, List.length_map, List.length_map, if_pos ⟨h1, h2⟩]
theorem lo_1 {ta tb : List Str} (h1 : ta.length = part ta tb) (h2 : ¬ tb.length = part ta tb) : orderS ta tb = -1 := by
  unfold orderS listOrd
  rw [part_map, List.length_map, List.length_map, if_neg (fun q => h2 q.2), if_pos (.inl h1), if_pos h1]
theorem lo_2 {ta tb : List Str} (h1 : ¬ ta.length = part ta tb) (h2 : tb.length = part ta tb) : orderS ta tb = 1 := by
  unfold orderS listOrd
  rw [part_map, List.length_map, List.length_map, if_neg (fun q => h1 q.1), if_pos (.inr h2), if_neg h1]
theorem lo_3 {ta tb : List Str} (h1 : part ta tb < ta.length) (h2 : part ta tb < tb.length) : orderS ta tb = wordOrd (ta[part ta tb]).cps.toList (tb[part ta tb]).cps.toList := by
  unfold orderS listOrd
  rw [part_map, List.length_map, List.length_map, if_neg (fun q => by omega), if_neg (fun q => by omega)]
  simp [List.getD_eq_getElem?_getD, h1, h2]
section
variable {prog : Program} {w : World} {A : Around} {E : Value → Shared → Prop} {s : Shared} {mg mb : Str → Option Value} {h₀ : Heap} {L a : Addr} {m : Str → Option Value} {name : Str} {scope : Scope} {cd : Value}
theorem callW {f : Addr} {oc : Value} {od : Option Addr} {osl : Array (Option Value)} {fd : FuncData} {pos : Pos} {env : Env} {e : Expr} {rest : List Expr} {Q : Value → Shared → Prop}
    (ho : (KH w).lookup f = some ⟨oc, od, .func fd, osl⟩)
    (h : wpAny (model prog w) A (spliced (backTo pos (starEach (e :: rest) env))) (fun vs s₁ => (KH w).In s₁.heap ∧ wpAny (model prog w) A (call (.ref f) vs) Q E s₁) E s)
    (he : starEach (e :: rest) env = (false, eval e env) :: starEach rest env := by rfl) :
    wpAny (model prog w) A (callWith pos (.ref f) [] (backTo pos (starEach (e :: rest) env)) []) Q E s :=
  callWith_def rfl (wpAny_mono h (fun _ _ h' => ⟨h'.1 _ _ ho, h'.2⟩) fun _ _ x => x) he
theorem isTrue_lenEq {x kx : Str} {p1 p2 p3 p4 p5 : Pos} {whole : Sem Value} {l : Addr} {vs : List Value} {k : Nat} {t : Tok} {Q : Bool → Shared → Prop} (C : Cx w mg mb h₀) (F : Fr h₀ L s.heap m) (hm : m x = some (.ref l)) (hl : h₀.IsList l vs.toArray)
    (hk : m kx = some (.int (k : Nat) t)) (hn : vs.length ≤ 1048576) (h : ∀ tk, Q (decide (vs.length = k)) { s with toks := tk })
    (hsc : scope.kind = .function := by rfl) (hx : (envOf name scope L a cd).kindOf x = some .local := by rfl) (hkx : (envOf name scope L a cd).kindOf kx = some .local := by rfl) (hlen : (envOf name scope L a cd).kindOf "len" = some .globalImplicit := by rfl)
    (hd : (x == ("__debug__" : Str)) = false := by decide) (hd2 : (kx == ("__debug__" : Str)) = false := by decide) :
    wpAny (model prog w) A (isTrue (.Compare (.Call (.Name "len" p1) [.Name x p2] [] p3) [.Eq] [.Name kx p4] p5) (envOf name scope L a cd) whole) Q E s := by
  refine wpAny_isTrue_Compare1 (Call_ (blt C F (nm_len w) boot_len (PyProof.Rows.callWith_builtin1 (spliced_more (ld F hm (spliced_none (len_list (F.lst hl) (by simp; omega) ?_)) hsc hx hd))) (by decide) hsc hlen))
  refine ld F hk ?_ hsc hkx hd2
  refine PyProof.Rows.eq_int (wpAny_truthy_bool ?_)
  have e : (((vs.toArray.size : Nat) : Int) == ((k : Nat) : Int)) = decide (vs.length = k) := by
    rw [Bool.eq_iff_iff]; simp; omega
  rw [e]
  exact h _
theorem isTrue_ltLen {x kx : Str} {p1 p2 p3 p4 p5 : Pos} {whole : Sem Value} {y : Str} {u : Tok} {k : Nat} {t : Tok} {Q : Bool → Shared → Prop} (C : Cx w mg mb h₀) (F : Fr h₀ L s.heap m) (hm : m x = some (.str y u))
    (hk : m kx = some (.int (k : Nat) t)) (hn : y.length ≤ 1048576) (h : ∀ tk, Q (decide (k < y.cps.toList.length)) { s with toks := tk })
    (hsc : scope.kind = .function := by rfl) (hx : (envOf name scope L a cd).kindOf x = some .local := by rfl) (hkx : (envOf name scope L a cd).kindOf kx = some .local := by rfl) (hlen : (envOf name scope L a cd).kindOf "len" = some .globalImplicit := by rfl)
    (hd : (x == ("__debug__" : Str)) = false := by decide) (hd2 : (kx == ("__debug__" : Str)) = false := by decide) :
    wpAny (model prog w) A (isTrue (.Compare (.Name kx p4) [.Lt] [.Call (.Name "len" p1) [.Name x p2] [] p3] p5) (envOf name scope L a cd) whole) Q E s := by
  refine wpAny_isTrue_Compare1 (ld F hk (Call_ (blt C F (nm_len w) boot_len (PyProof.Rows.callWith_builtin1 (spliced_more (ld F hm (spliced_none (PyProof.Rows.len_str (by omega) ?_)) hsc hx hd))) (by decide) hsc hlen)) hsc hkx hd2)
  refine wpAny_lt_int (wpAny_truthy_bool ?_)
  have e : decide (((k : Nat) : Int) < ((y.length : Nat) : Int)) = decide (k < y.cps.toList.length) := by
    have : y.length = y.cps.toList.length := by simp [Str.length]
    rw [this, Bool.eq_iff_iff]; simp
  rw [e]
  exact h _
theorem minus1 {env : Env} {p1 p2 : Pos} {k : Nat} {Q : Value → Shared → Prop} (h : ∀ t tk, Q (.int (-1) t) { s with toks := tk }) : wpAny (model prog w) A (eval (.UnaryOp .USub (.Constant (.int 1) k p1) p2) env) Q E s :=
  UnaryOp_ (wpAny_Constant_int (PyProof.Rows.neg_int (h _ _)))
end
end Mine

open PySem PySem.W PyProof.Rows
set_option maxRecDepth 100000
namespace Mine
theorem wo_mixed {X Y : List Nat} (h : bareL X ≠ bareL Y) : wordOrd X Y = if (((if bareL X then X else Y) == X) == ((if bareL X then X else Y).getD 0 0 == 37)) then -1 else 1 := by
  unfold wordOrd; rw [if_pos (by simpa using h)]
theorem wo_signs {X Y : List Nat} (h : bareL X = bareL Y) (h1 : part X Y < X.length) (h2 : part X Y < Y.length) : wordOrd X Y = if X[part X Y] < Y[part X Y] then -1 else 1 := by
  unfold wordOrd; rw [if_neg (by simpa using h), if_pos ⟨h1, h2⟩]; simp [List.getD_eq_getElem?_getD, h1, h2]
theorem wo_x {X Y : List Nat} (h : bareL X = bareL Y) (h1 : part X Y < X.length) (h2 : ¬ part X Y < Y.length) : wordOrd X Y = if ((X == Y) == (bareL X || decide (39 ≤ X[part X Y]))) then -1 else 1 := by
  unfold wordOrd; rw [if_neg (by simpa using h), if_neg (fun q => h2 q.2), if_pos h1]; simp [List.getD_eq_getElem?_getD, h1]
theorem wo_y {X Y : List Nat} (h : bareL X = bareL Y) (h1 : ¬ part X Y < X.length) (h2 : part X Y < Y.length) : wordOrd X Y = if (true == (bareL X || decide (39 ≤ Y[part X Y]))) then -1 else 1 := by
  unfold wordOrd; rw [if_neg (by simpa using h), if_neg (fun q => h1 q.1), if_neg h1]; simp [List.getD_eq_getElem?_getD, h2]
theorem part_ends {X Y : List Nat} (hne : X ≠ Y) : part X Y < X.length ∨ part X Y < Y.length := by
  rcases part_cases X Y hne with ⟨p, a, b, r, t, h1, h2, _, h4⟩ | ⟨b, t, h1, h2⟩ | ⟨a, t, h1, h2⟩
  · left; rw [h4, h1]; simp
  · right; rw [h2, h1]; simp
  · left; rw [h2, h1]; simp
theorem sign_pct (c : Nat) : ((⟨#[c]⟩ : Str) == Str.ofString "%") = (c == 37) := by
  rw [show Str.ofString "%" = ⟨#[37]⟩ from by decide +kernel, one_beq]; rfl
theorem getD_first {X : List Nat} (h : 0 < X.length) : X.getD 0 0 = X[0] := by simp [List.getD_eq_getElem?_getD, h]
theorem beq_cps (x y : Str) : (x == y) = (x.cps.toList == y.cps.toList) := by
  rw [Bool.eq_iff_iff]; simp only [beq_iff_eq]
  exact ⟨fun e => by rw [e], str_ext⟩
theorem bare_pos {X : List Nat} (h : bareL X = true) : 0 < X.length := by
  cases X with
  | nil => simp [bareL] at h
  | cons a r => simp
section
variable {prog : Program} {w : World} {A : Around} {E : Value → Shared → Prop} {s : Shared} {mg mb : Str → Option Value}
theorem one_or {b : Bool} {env : Env} {p1 p2 p3 : Pos} {k1 k2 : Nat} {Q : Value → Shared → Prop} (h : ∀ t tk, Q (.int (if b then -1 else 1) t) { s with toks := tk }) :
    if b = true then wpAny (model prog w) A (eval (.UnaryOp .USub (.Constant (.int 1) k1 p1) p2) env) Q E s else wpAny (model prog w) A (eval (.Constant (.int 1) k2 p3) env) Q E s := by
  cases b with
  | true => rw [if_pos rfl]; exact minus1 fun t tk => h t tk
  | false => rw [if_neg Bool.false_ne_true]; exact wpAny_Constant_int (h _ _)
set_option maxHeartbeats 4000000 in
theorem order_call {la lb : Addr} {va vb : List Value} {ta tb : List Str} {Q : Value → Shared → Prop} (C : Cx w mg mb s.heap) (hroom : A.depth + 1 < recursionLimit) (hh : A.handled = none) (hu : A.units + 6 < cLine)
    (hla : s.heap.IsList la va.toArray) (hlb : s.heap.IsList lb vb.toArray) (hta : StrsAre va ta) (htb : StrsAre vb tb) (hna : ta.length ≤ 1048576) (hnb : tb.length ≤ 1048576)
    (hwa : ∀ x ∈ ta, x.length ≤ 1048576) (hwb : ∀ x ∈ tb, x.length ≤ 1048576)
    (h : ∀ t' s', Keeps s s' → Q (.int (orderS ta tb) t') s') : wpAny (model prog w) A (call (.ref 84) [.ref la, .ref lb]) Q E s := by
  have hva := hta.length
  have hvb := htb.length
  refine call_def (binds := [(Str.ofString "first", .ref la), (Str.ofString "second", .ref lb)]) C rfl rfl (by omega) rfl rfl fun h₁ F => ?_
  have C₁ : Cx w mg mb h₁ := C.keeps F.keep
  refine wpAny_execs_cons (wpAny_Assign_Name (Call_ (glob C F (nm_part w) (callW rfl (spliced_more (ld F rfl (spliced_more (ld F rfl (spliced_none ⟨C₁.X, ?_⟩)))))))))
  refine part_lists C₁ hroom hh (F.lst hla) (F.lst hlb) hta htb hna hnb fun t₂ s₂ K₂ => ?_
  have K₂' : Keeps s s₂ := kp_trans (kp_fr F _) K₂
  refine st (fr_kp F K₂) fun h₃ F₃ => ?_
  have hp := part_le ta tb
  generalize hk : part ta tb = k at *
  refine wpAny_execs_cons (wpAny_If (isTrue_and (isTrue_lenEq C F₃ rfl hla rfl (by omega) fun tk₁ => ?_)))
  obtain ⟨h₂, tkz, rfl, hk₂⟩ := K₂'
  by_cases h1 : va.length = k
  · rw [decide_eq_true h1, if_pos rfl]
    refine isTrue_and (isTrue_lenEq C F₃ rfl hlb rfl (by omega) fun tk₂ => ?_)
    by_cases h2 : vb.length = k
    · rw [decide_eq_true h2, if_pos rfl]
      refine isTrue_and_nil ?_
      rw [if_pos rfl]
      refine wpAny_execs_cons (wpAny_Return_some (wpAny_Constant_int ?_))
      rw [← lo_0 (ta := ta) (tb := tb) (by omega) (by omega)]
      exact h _ _ (kp_fr F₃ _)
    · rw [decide_eq_false h2, if_neg Bool.false_ne_true, if_neg Bool.false_ne_true]
      refine wpAny_execs_nil (wpAny_execs_cons (wpAny_If (isTrue_or (isTrue_lenEq C F₃ rfl hla rfl (by omega) fun tk₃ => ?_))))
      rw [decide_eq_true h1, if_pos rfl, if_pos rfl]
      refine wpAny_execs_cons (wpAny_Return_some (IfExp_ (isTrue_lenEq C F₃ rfl hla rfl (by omega) fun tk₄ => ?_)))
      rw [decide_eq_true h1, if_pos rfl]
      refine minus1 fun t tk => ?_
      rw [← lo_1 (ta := ta) (tb := tb) (by omega) (by omega)]
      exact h _ _ (kp_fr F₃ _)
  · rw [decide_eq_false h1, if_neg Bool.false_ne_true, if_neg Bool.false_ne_true]
    refine wpAny_execs_nil (wpAny_execs_cons (wpAny_If (isTrue_or (isTrue_lenEq C F₃ rfl hla rfl (by omega) fun tk₃ => ?_))))
    rw [decide_eq_false h1, if_neg Bool.false_ne_true]
    refine isTrue_or (isTrue_lenEq C F₃ rfl hlb rfl (by omega) fun tk₄ => ?_)
    by_cases h2 : vb.length = k
    · rw [decide_eq_true h2, if_pos rfl, if_pos rfl]
      refine wpAny_execs_cons (wpAny_Return_some (IfExp_ (isTrue_lenEq C F₃ rfl hla rfl (by omega) fun tk₅ => ?_)))
      rw [decide_eq_false h1, if_neg Bool.false_ne_true]
      refine wpAny_Constant_int ?_
      rw [← lo_2 (ta := ta) (tb := tb) (by omega) (by omega)]
      exact h _ _ (kp_fr F₃ _)
    · rw [decide_eq_false h2, if_neg Bool.false_ne_true]
      refine isTrue_or_nil ?_
      rw [if_neg Bool.false_ne_true]
      have g1 : k < ta.length := by omega
      have g2 : k < tb.length := by omega
      have elo := lo_3 (ta := ta) (tb := tb) (by omega) (by omega)
      have hne := part_ne ta tb (by omega) (by omega)
      simp only [hk] at elo hne
      obtain ⟨u1, hu1⟩ := hta.get k _ (List.getElem?_eq_getElem g1)
      obtain ⟨u2, hu2⟩ := htb.get k _ (List.getElem?_eq_getElem g2)
      have hx := hwa _ (List.getElem_mem g1)
      have hy := hwb _ (List.getElem_mem g2)
      generalize ta[k] = x at *
      generalize tb[k] = y at *
      rw [elo] at h
      refine wpAny_execs_nil (wpAny_execs_cons (wpAny_Assign_Name (Subscript_ (ld F₃ rfl (ld F₃ rfl (item_listL (F₃.lst hla) (by omega) (by omega) (by simpa using hu1) (st F₃ fun h₄ F₄ => ?_)))))))
      refine wpAny_execs_cons (wpAny_Assign_Name (Subscript_ (ld F₄ rfl (ld F₄ rfl (item_listL (F₄.lst hlb) (by omega) (by omega) (by simpa using hu2) (st F₄ fun h₅ F₅ => ?_))))))
      have hXY : x.cps.toList ≠ y.cps.toList := fun e => hne (str_ext e)
      have C₅ : Cx w mg mb h₅ := C.keeps F₅.keep
      refine wpAny_execs_cons (wpAny_If (wpAny_isTrue_Compare1 (Call_ (glob C F₅ (nm_bare w) (callW rfl (spliced_more (ld F₅ rfl (spliced_none ⟨C₅.X, ?_⟩))))))))
      refine bare_call C₅ hroom hh (by show A.units + 3 + 3 < cLine; omega) hx fun s₆ K₆ => ?_
      have K₆' : Keeps s s₆ := kp_trans (kp_fr F₅ _) K₆
      have F₆ := fr_kp F₅ K₆
      obtain ⟨h₆, tk₆, rfl, _⟩ := K₆'
      have C₆ : Cx w mg mb h₆ := C.keeps F₆.keep
      refine Call_ (glob C F₆ (nm_bare w) (callW rfl (spliced_more (ld F₆ rfl (spliced_none ⟨C₆.X, ?_⟩)))))
      refine bare_call C₆ hroom hh (by show A.units + 3 + 3 < cLine; omega) hy fun s₇ K₇ => ?_
      have K₇' : Keeps s s₇ := kp_trans (kp_fr F₆ _) K₇
      have F₇ := fr_kp F₆ K₇
      obtain ⟨h₇, tk₇, rfl, _⟩ := K₇'
      have C₇ : Cx w mg mb h₇ := C.keeps F₇.keep
      refine ne_bool (wpAny_truthy_bool ?_)
      by_cases hb : bareL x.cps.toList = bareL y.cps.toList
      · have e : (bareL x.cps.toList != bareL y.cps.toList) = false := by simpa using hb
        rw [e, if_neg Bool.false_ne_true]
        refine wpAny_execs_nil (wpAny_execs_cons (wpAny_Assign_Name (Call_ (glob C F₇ (nm_part w) (callW rfl (spliced_more (ld F₇ rfl (spliced_more (ld F₇ rfl (spliced_none ⟨C₇.X, ?_⟩))))))))))
        refine part_strs C₇ hroom hh hx hy fun t₈ s₈ K₈ => ?_
        have K₈' : Keeps s s₈ := kp_trans (kp_fr F₇ _) K₈
        have F₈ := fr_kp F₇ K₈
        obtain ⟨h₈, tk₈, rfl, _⟩ := K₈'
        refine st F₈ fun h₉ F₉ => ?_
        have hends := part_ends hXY
        refine wpAny_execs_cons (wpAny_If (isTrue_and (isTrue_ltLen C F₉ rfl rfl hx fun tk₉ => ?_)))
        by_cases q1 : part x.cps.toList y.cps.toList < x.cps.toList.length
        · rw [decide_eq_true q1, if_pos rfl]
          refine isTrue_and (isTrue_ltLen C F₉ rfl rfl hy fun tk₁₀ => ?_)
          by_cases q2 : part x.cps.toList y.cps.toList < y.cps.toList.length
          · rw [decide_eq_true q2, if_pos rfl]
            refine isTrue_and_nil ?_
            rw [if_pos rfl]
            rw [wo_signs hb q1 q2] at h
            refine wpAny_execs_cons (wpAny_Return_some (IfExp_ (wpAny_isTrue_Compare1 (Call_ (blt C F₉ (nm_ord w) boot_ord (PyProof.Rows.callWith_builtin1 (spliced_more (Subscript_ (ld F₉ rfl (ld F₉ rfl (item_sign hx q1 (spliced_none (P.ord_of_char ?_))))))))))))) 
            refine Call_ (blt C F₉ (nm_ord w) boot_ord (PyProof.Rows.callWith_builtin1 (spliced_more (Subscript_ (ld F₉ rfl (ld F₉ rfl (item_sign hy q2 (spliced_none (P.ord_of_char ?_)))))))))
            refine wpAny_lt_int (wpAny_truthy_bool (one_or fun t tk => ?_))
            have := h t _ (kp_fr F₉ tk)
            simpa using this
          · rw [decide_eq_false q2, if_neg Bool.false_ne_true, if_neg Bool.false_ne_true]
            refine wpAny_execs_nil (wpAny_execs_cons (wpAny_Assign_Name (IfExp_ (isTrue_ltLen C F₉ rfl rfl hx fun tk₁₁ => ?_))))
            rw [decide_eq_true q1, if_pos rfl]
            refine ld F₉ rfl (st F₉ fun h₁₁ F₁₁ => ?_)
            have C₁₁ : Cx w mg mb h₁₁ := C.keeps F₁₁.keep
            rw [wo_x hb q1 q2] at h
            refine wpAny_execs_cons (wpAny_Assign_Name (BoolOp_or (Call_ (glob C F₁₁ (nm_bare w) (callW rfl (spliced_more (ld F₁₁ rfl (spliced_none ⟨C₁₁.X, ?_⟩))))))))
            refine bare_call C₁₁ hroom hh (by show A.units + 3 + 3 < cLine; omega) hx fun s₁₂ K₁₂ => ?_
            have K₁₂' : Keeps s s₁₂ := kp_trans (kp_fr F₁₁ _) K₁₂
            have F₁₂ := fr_kp F₁₁ K₁₂
            obtain ⟨h₁₂, tk₁₂, rfl, _⟩ := K₁₂'
            refine wpAny_truthy_bool ?_
            cases hbx : bareL x.cps.toList with
            | true =>
              rw [if_pos rfl]
              refine st F₁₂ fun h₁₃ F₁₃ => ?_
              refine wpAny_execs_cons (wpAny_Return_some (IfExp_ (wpAny_isTrue_Compare1 (wpAny_Compare1 (ld F₁₃ rfl (ld F₁₃ rfl (PyProof.Rows.eq_str (ld F₁₃ rfl (eq_bool (wpAny_truthy_bool (one_or fun t tk => ?_)))))))))))
              have := h t _ (kp_fr F₁₃ tk)
              rw [hbx] at this
              rw [beq_cps]
              simpa using this
            | false =>
              rw [if_neg Bool.false_ne_true]
              refine BoolOp_one (wpAny_Compare1 (Call_ (blt C F₁₂ (nm_ord w) boot_ord (PyProof.Rows.callWith_builtin1 (spliced_more (Subscript_ (ld F₁₂ rfl (ld F₁₂ rfl (item_sign hx q1 (spliced_none (P.ord_of_char ?_))))))))))) 
              refine Call_ (blt C F₁₂ (nm_ord w) boot_ord (PyProof.Rows.callWith_builtin1 (spliced_more (wpAny_Constant_str (spliced_none (ord_of_one (by decide +kernel) ?_))))))
              refine PyProof.Rows.ge_int (st F₁₂ fun h₁₃ F₁₃ => ?_)
              refine wpAny_execs_cons (wpAny_Return_some (IfExp_ (wpAny_isTrue_Compare1 (wpAny_Compare1 (ld F₁₃ rfl (ld F₁₃ rfl (PyProof.Rows.eq_str (ld F₁₃ rfl (eq_bool (wpAny_truthy_bool (one_or fun t tk => ?_)))))))))))
              have := h t _ (kp_fr F₁₃ tk)
              rw [hbx, Bool.false_or] at this
              rw [beq_cps, show ((Str.ofString "'").cps.getD 0 0) = 39 from by decide +kernel]
              have e : decide (((39 : Nat) : Int) ≤ ((x.cps.toList[part x.cps.toList y.cps.toList] : Nat) : Int)) = decide (39 ≤ x.cps.toList[part x.cps.toList y.cps.toList]) := by
                rw [Bool.eq_iff_iff]; simp only [decide_eq_true_eq]; omega
              rw [e]
              exact this
        · have q2 : part x.cps.toList y.cps.toList < y.cps.toList.length := hends.resolve_left q1
          rw [decide_eq_false q1, if_neg Bool.false_ne_true, if_neg Bool.false_ne_true]
          refine wpAny_execs_nil (wpAny_execs_cons (wpAny_Assign_Name (IfExp_ (isTrue_ltLen C F₉ rfl rfl hx fun tk₁₁ => ?_))))
          rw [decide_eq_false q1, if_neg Bool.false_ne_true]
          refine ld F₉ rfl (st F₉ fun h₁₁ F₁₁ => ?_)
          have C₁₁ : Cx w mg mb h₁₁ := C.keeps F₁₁.keep
          rw [wo_y hb q1 q2] at h
          refine wpAny_execs_cons (wpAny_Assign_Name (BoolOp_or (Call_ (glob C F₁₁ (nm_bare w) (callW rfl (spliced_more (ld F₁₁ rfl (spliced_none ⟨C₁₁.X, ?_⟩))))))))
          refine bare_call C₁₁ hroom hh (by show A.units + 3 + 3 < cLine; omega) hx fun s₁₂ K₁₂ => ?_
          have K₁₂' : Keeps s s₁₂ := kp_trans (kp_fr F₁₁ _) K₁₂
          have F₁₂ := fr_kp F₁₁ K₁₂
          obtain ⟨h₁₂, tk₁₂, rfl, _⟩ := K₁₂'
          refine wpAny_truthy_bool ?_
          cases hbx : bareL x.cps.toList with
          | true =>
            rw [if_pos rfl]
            refine st F₁₂ fun h₁₃ F₁₃ => ?_
            refine wpAny_execs_cons (wpAny_Return_some (IfExp_ (wpAny_isTrue_Compare1 (wpAny_Compare1 (ld F₁₃ rfl (ld F₁₃ rfl (PyProof.Rows.eq_str (ld F₁₃ rfl (eq_bool (wpAny_truthy_bool (one_or fun t tk => ?_)))))))))))
            have := h t _ (kp_fr F₁₃ tk)
            rw [hbx] at this
            rw [beq_self_eq_true]
            simpa using this
          | false =>
            rw [if_neg Bool.false_ne_true]
            refine BoolOp_one (wpAny_Compare1 (Call_ (blt C F₁₂ (nm_ord w) boot_ord (PyProof.Rows.callWith_builtin1 (spliced_more (Subscript_ (ld F₁₂ rfl (ld F₁₂ rfl (item_sign hy q2 (spliced_none (P.ord_of_char ?_))))))))))) 
            refine Call_ (blt C F₁₂ (nm_ord w) boot_ord (PyProof.Rows.callWith_builtin1 (spliced_more (wpAny_Constant_str (spliced_none (ord_of_one (by decide +kernel) ?_))))))
            refine PyProof.Rows.ge_int (st F₁₂ fun h₁₃ F₁₃ => ?_)
            refine wpAny_execs_cons (wpAny_Return_some (IfExp_ (wpAny_isTrue_Compare1 (wpAny_Compare1 (ld F₁₃ rfl (ld F₁₃ rfl (PyProof.Rows.eq_str (ld F₁₃ rfl (eq_bool (wpAny_truthy_bool (one_or fun t tk => ?_)))))))))))
            have := h t _ (kp_fr F₁₃ tk)
            rw [hbx, Bool.false_or] at this
            rw [beq_self_eq_true, show ((Str.ofString "'").cps.getD 0 0) = 39 from by decide +kernel]
            have e : decide (((39 : Nat) : Int) ≤ ((y.cps.toList[part x.cps.toList y.cps.toList] : Nat) : Int)) = decide (39 ≤ y.cps.toList[part x.cps.toList y.cps.toList]) := by
              rw [Bool.eq_iff_iff]; simp only [decide_eq_true_eq]; omega
            rw [e]
            exact this
      · have e : (bareL x.cps.toList != bareL y.cps.toList) = true := by simpa using hb
        rw [e, if_pos rfl]
        rw [wo_mixed hb] at h
        refine wpAny_execs_cons (wpAny_Assign_Name (IfExp_ (isTrue_plain (Call_ (glob C F₇ (nm_bare w) (callW rfl (spliced_more (ld F₇ rfl (spliced_none ⟨C₇.X, ?_⟩)))))))))
        refine bare_call C₇ hroom hh (by show A.units + 3 + 3 < cLine; omega) hx fun s₈ K₈ => ?_
        have K₈' : Keeps s s₈ := kp_trans (kp_fr F₇ _) K₈
        have F₈ := fr_kp F₇ K₈
        obtain ⟨h₈, tk₈, rfl, _⟩ := K₈'
        refine wpAny_truthy_bool ?_
        cases hbx : bareL x.cps.toList with
        | true =>
          rw [if_pos rfl]
          refine ld F₈ rfl (st F₈ fun h₉ F₉ => ?_)
          have hl := bare_pos hbx
          rw [hbx, if_pos rfl, getD_first hl] at h
          refine wpAny_execs_cons (wpAny_Return_some (IfExp_ (wpAny_isTrue_Compare1 (wpAny_Compare1 (ld F₉ rfl (ld F₉ rfl (PyProof.Rows.eq_str (wpAny_Compare1 (Subscript_ (ld F₉ rfl (wpAny_Constant_int (item_sign (k := 0) hx hl (wpAny_Constant_str (PyProof.Rows.eq_str (eq_bool (wpAny_truthy_bool (one_or fun t tk => ?_)))))))))))))))))
          have := h t _ (kp_fr F₉ tk)
          rw [beq_cps, sign_pct]
          exact this
        | false =>
          rw [if_neg Bool.false_ne_true]
          refine ld F₈ rfl (st F₈ fun h₉ F₉ => ?_)
          have hby : bareL y.cps.toList = true := by
            cases hq : bareL y.cps.toList with
            | true => rfl
            | false => exact absurd (hbx.trans hq.symm) hb
          have hl := bare_pos hby
          rw [hbx, if_neg Bool.false_ne_true, getD_first hl] at h
          refine wpAny_execs_cons (wpAny_Return_some (IfExp_ (wpAny_isTrue_Compare1 (wpAny_Compare1 (ld F₉ rfl (ld F₉ rfl (PyProof.Rows.eq_str (wpAny_Compare1 (Subscript_ (ld F₉ rfl (wpAny_Constant_int (item_sign (k := 0) hy hl (wpAny_Constant_str (PyProof.Rows.eq_str (eq_bool (wpAny_truthy_bool (one_or fun t tk => ?_)))))))))))))))))
          have := h t _ (kp_fr F₉ tk)
          rw [beq_cps, sign_pct]
          exact this
end
end Mine

open PySem PySem.W PyProof.Rows
set_option maxRecDepth 100000
namespace Mine
theorem kh_classed (w : World) : kb_classed (KH w) = true := by kernel_rfl

/-- the table of join's code -/
structure Jt (P : Addr) (ps : Array Value) (h : Heap) : Prop where
  code : h.IsCode 42 P ps
  tab : h.TableAt 42 P ps
theorem Jt.keeps {P : Addr} {ps : Array Value} {h h' : Heap} (J : Jt P ps h) (hk : ∀ b o, h.get? b = some o → h'.get? b = some o) : Jt P ps h' := ⟨J.code.keeps hk, J.tab.keeps hk⟩
theorem Jt.ns {P a : Addr} {ps : Array Value} {h : Heap} {m : Str → Option Value} (J : Jt P ps h) (G : h.Ns a m) : a ≠ P := fun e => by
  obtain ⟨o, es, ep, ho, hd, _⟩ := G
  rw [e, J.tab.2] at ho; cases ho; cases hd
theorem Jt.statics {P : Addr} {ps : Array Value} {h : Heap} (J : Jt P ps h) (G : h.NoLimit) : cStatics ≠ P := by
  obtain ⟨_, hns, _⟩ := G
  exact J.ns hns
theorem Cx.but {w : World} {mg mb : Str → Option Value} {h h' : Heap} {P : Addr} {ps : Array Value} (C : Cx w mg mb h) (J : Jt P ps h) (hx : Heap.ExtBut P h h') : Cx w mg mb h' := by
  refine ⟨fun a o e => ?_, C.g.extBut hx (J.ns C.g), C.b.extBut hx (J.ns C.b), C.bi, C.lim.extBut hx (J.statics C.lim)⟩
  have ha := C.X a o e
  have q := List.all_eq_true.mp (kh_classed w) (a, o) (kb_mem e)
  refine hx a o ?_ ha
  simp only [Bool.or_eq_true, decide_eq_true_eq, beq_iff_eq] at q
  rcases q with (q | q) | q
  · intro z
    rw [z, J.tab.2] at ha
    cases ha
    exact q rfl
  · rw [q]; exact J.statics C.lim
  · rw [q]; exact J.ns C.g

section
variable {prog : Program} {w : World} {A : Around} {E : Value → Shared → Prop} {s : Shared} {mg mb : Str → Option Value}

theorem gen_step {env : Env} {elt iter : Expr} {x : Str} {px : Pos} {scope : Scope} {pos : Pos} {Q : Value → Shared → Prop} {l L P bm : Addr} {ps : Array Value} {vs : List Value} {ts : List Str} {h₀ : Heap} {m : Str → Option Value} {ob : Obj}
    (C : Cx w mg mb h₀) (J : Jt P ps h₀) (M : BMod h₀ mainGlobals mg bm ob) (hg : env.globals = mainGlobals) (hcode : env.code = .ref 42)
    (hh : A.handled = none) (hco : scope.isCoroutine = false) (hclos : closureFor scope env = pure []) (hcell : ∀ y ∈ scope.names, y.2 ≠ .cell) (h0 : scope.names.lookup (".0" : Str) = some NameKind.local)
    (hx : scope.names.lookup x = some .local) (hkind : scope.kind = .function) (hroom : A.depth < recursionLimit)
    (F : Fr h₀ L s.heap m) (G : AllBare s.gens) (hl : h₀.IsList l vs.toArray) (hi : StrsAre vs ts)
    (hit : wpAny (model prog w) A (eval iter env) (fun xv s₁ => xv = .ref l ∧ s₁ = s) E s)
    (helt : ∀ (C' : Addr) (code : Value) (A' : Around) (E' : Value → Shared → Prop) (a : Str) (t : Tok) (u : Shared) (m₂ : Str → Option Value), A'.handled = none → A'.depth ≤ A.depth + 1 → A'.units ≤ A.units + 8 → a ∈ ts → u.heap.Ns C' m₂ → m₂ x = some (.str a t) → Cx w mg mb u.heap →
      wpAny (model prog w) A' (eval elt (genEnv scope [] C' code builtinsNs env)) (fun y s₃ => Carried y (.str (quoteS a)) ∧ Keeps u s₃) E' u)
    (hQ : ∀ (a : Addr) (s₅ : Shared) (more : Array Value), Jt P (ps ++ more) s₅.heap → s₅.heap.Ns L m → AllBare s₅.gens → s₅.os = s.os → Heap.ExtBut P s.heap s₅.heap →
      GenOnS prog w A L a ts (fun _ => true) (fun a => .str (quoteS a)) s₅ → Q (.ref a) s₅)
    (hs : ∀ x, genFold iter env x = pure x) :
    wpAny (model prog w) A (eval (.GeneratorExp elt [⟨.Name x px, iter, [], 0⟩] scope pos) env) Q E s := by
  have J₁ := J.keeps F.keep
  have C₁ := C.keeps F.keep
  have hl₁ := F.lst hl
  have hlt : l < s.heap.objs.size := by obtain ⟨_, e, _⟩ := hl₁; exact Heap.lt_size e
  have hLlt : L < s.heap.objs.size := F.ns.lt
  have hPL : P < L := Nat.lt_of_lt_of_le J.code.lt.2 F.above
  have hlP : l ≠ P := fun e => by
    obtain ⟨o, ho, hc, _⟩ := hl₁
    rw [e, J₁.tab.2] at ho; cases ho; exact absurd hc (by simp)
  have hsize : vs.toArray.size = ts.length := by simp [hi.length]
  refine wpAny_GeneratorExp_walksQD hh hco hclos hcell h0 hx hkind hroom (wpAny_mono hit (fun xv s₁ e => ?_) fun _ _ e => e) hs
  obtain ⟨rfl, rfl⟩ := e
  refine wpAny_pyIter_list hl₁ ?_
  have J₂ : Jt P ps (s₁.heap.push { cls := .type "list_iterator", data := .fields #[.ref l, .int 0 0] }) := J₁.keeps fun _ _ e => Heap.get?_push_of_some _ e
  have hst₂ : (s₁.heap.push { cls := .type "list_iterator", data := .fields #[.ref l, .int 0 0] }).IsListIter s₁.heap.objs.size l 0 ∧ (s₁.heap.push { cls := .type "list_iterator", data := .fields #[.ref l, .int 0 0] }).IsList l vs.toArray :=
    ⟨⟨_, Heap.get?_push_size _ rfl, rfl, rfl⟩, hl₁.push _⟩
  have hlim₂ : (s₁.heap.push { cls := .type "list_iterator", data := .fields #[.ref l, .int 0 0] }).NoLimit := C₁.lim.push _
  have hx₂ : ∀ b o, s₁.heap.get? b = some o → (s₁.heap.push { cls := .type "list_iterator", data := .fields #[.ref l, .int 0 0] }).get? b = some o := fun _ _ e => Heap.get?_push_of_some _ e
  have hsz₂ : (s₁.heap.push { cls := .type "list_iterator", data := .fields #[.ref l, .int 0 0] }).objs.size = s₁.heap.objs.size + 1 := Heap.size_push ..
  generalize (s₁.heap.push { cls := .type "list_iterator", data := .fields #[.ref l, .int 0 0] }) = h₂ at *
  refine ⟨hlim₂, ?_⟩
  have cd : wpAny (model prog w) A (genexprCode env pos (env.qual ++ "<genexpr>") scope) (fun code s₃ => ∃ h₃ tk more, s₃ = { s₁ with heap := h₃, toks := tk } ∧ Heap.ExtBut P h₂ h₃ ∧ h₂.objs.size ≤ h₃.objs.size ∧ Jt P (ps ++ more) h₃) E { s₁ with heap := h₂ } := by
    cases hf : codeAmong pos ps.toList with
    | none =>
      exact wpAny_genexprCodeX hcode J₂.code J₂.tab hf fun c' h₃ tk₃ hx₃ hge hlt hcode₃ _ htab₃ _ => ⟨h₃, tk₃, _, rfl, hx₃, Nat.le_trans hge (Nat.le_of_lt hlt), hcode₃, htab₃⟩
    | some v =>
      exact wpAny_genexprCode_hit hcode J₂.code hf ⟨h₂, s₁.toks, #[], rfl, Heap.ExtBut.refl _ _, Nat.le_refl _, by simpa using J₂⟩
  refine wpAny_mono cd (fun code s₃ e => ?_) fun _ _ e => e
  obtain ⟨h₃, tk₃, more, rfl, hx₃, hsz, J₃⟩ := e
  have M₃ : BMod h₃ mainGlobals mg bm ob := ((M.keeps F.keep).keeps hx₂).extBut J₂.tab hx₃
  rw [hg]
  refine wpAny_builtinsFor M₃.ns M₃.name M₃.ne M₃.obj M₃.cls M₃.dict M₃.data ?_
  have W₀ : ∀ A' : Around, A'.handled = none → Walks prog w A' s₁.heap.objs.size [s₁.heap.objs.size, l] [s₁.heap.objs.size] ts.length (fun i v => vs.toArray[i]? = some v) (fun i h => h.IsListIter s₁.heap.objs.size l i ∧ h.IsList l vs.toArray) := fun A' hA => by
    rw [← hsize]; exact Walks.list hA _ _ (Nat.ne_of_lt hlt) vs.toArray
  have hup : s₁.heap.objs.size < h₃.objs.size := Nat.lt_of_lt_of_le (by rw [hsz₂]; exact Nat.lt_succ_self _) hsz
  have hlim₃ : h₃.NoLimit := hlim₂.extBut hx₃ (J₂.statics hlim₂)
  have hclt : cStatics < s₁.heap.objs.size := let ⟨_, hn, _⟩ := C₁.lim; hn.lt
  have old : ∀ b o, b ≠ P → s₁.heap.get? b = some o → h₃.get? b = some o := fun b o hb e => hx₃ b o hb (hx₂ b o e)
  refine ⟨s₁.heap.objs.size, [s₁.heap.objs.size, l], [s₁.heap.objs.size], ts.length, _, _, fun _ => true, fun i y => Carried y (.str (quoteS (ts.getD i ""))), rfl, W₀, (W₀ A hh).frame _ _ _ hst₂ (fun b hb o e => hx₃ b o (fun e' => ?_) e), (fun b hb => ?_), hlim₃, ?_,
    (fun href hhref => ⟨?_, ?_⟩), fun a h₅ tk gs hgb hag hsz₅ hk₅ W hat => ?_⟩
  · subst e'
    rcases List.mem_cons.mp hb with e | hb
    · rw [e] at hPL; exact absurd (Nat.lt_trans hPL hLlt) (Nat.lt_irrefl _)
    · rcases List.mem_cons.mp hb with e | hb
      · exact hlP e.symm
      · cases hb
  · show b < h₃.objs.size
    rcases List.mem_cons.mp hb with rfl | hb
    · exact hup
    · rcases List.mem_cons.mp hb with rfl | hb
      · exact Nat.lt_trans hlt hup
      · cases hb
  · intro hm
    have := List.mem_singleton.mp hm
    exact absurd (this ▸ hclt) (Nat.lt_irrefl _)
  · intro A' E' i v u m₂ hA hD hU hP hn hm hkp
    exact wpAny_pure ⟨rfl, kp_refl _⟩
  · intro A' E' i v u m₂ hA hD hU hP hp hn hm hkp
    have hv' : vs[i]? = some v := by simpa using hP
    have hlti : i < ts.length := by rw [← hi.length]; exact (List.getElem?_eq_some_iff.mp hv').1
    obtain ⟨t, ht⟩ := hi.get i ts[i] (List.getElem?_eq_getElem hlti)
    rw [hv'] at ht
    have hvt : v = .str ts[i] t := Option.some.inj ht
    have hgd : ts.getD i "" = ts[i] := by simp [List.getD_eq_getElem?_getD, hlti]
    rw [hgd]
    refine helt _ code A' E' ts[i] t u m₂ hA hD hU (List.getElem_mem hlti) hn (hm.trans (congrArg some hvt)) (C.but J fun b o hb e => ?_)
    have hbl : b < s₁.heap.objs.size := Nat.lt_trans (Nat.lt_of_lt_of_le (Heap.lt_size e) F.above) hLlt
    have e3 := old b o hb (F.keep b o e)
    exact hkp b (List.mem_range.mpr (Heap.lt_size e3)) (fun hm => absurd ((List.mem_singleton.mp hm) ▸ hbl) (Nat.lt_irrefl _)) o (hhref b o e3)
  · refine hQ a _ more (J₃.keeps hk₅) (((F.ns.keeps hx₂).extBut hx₃ (Nat.ne_of_gt hPL)).keeps hk₅) (G.push hgb) rfl (fun b o hb e => hk₅ b o (old b o hb e)) ⟨_, _, _, _, W, hat, (fun i s' st => st.1.typeIs), List.mem_cons_self, ?_, ?_⟩
    · intro b hb
      show b < h₅.objs.size
      rw [hsz₅]
      rcases List.mem_cons.mp hb with rfl | hb
      · exact Nat.lt_succ_self _
      · rcases List.mem_cons.mp hb with rfl | hb
        · exact Nat.lt_succ_of_lt hag
        · exact Nat.lt_succ_of_lt (Nat.lt_trans (List.mem_range.mp hb) hag)
    · intro b hb
      rcases List.mem_cons.mp hb with rfl | hb
      · exact Nat.lt_trans hLlt hup
      · rw [List.mem_singleton.mp hb]; exact hLlt

def joinS (ts : List Str) : Str := Txt.join " " (ts.map quoteS)
theorem join_cps : ∀ ts : List Str, (Str.join " " (ts.map quoteS)).cps.toList = joinL (ts.map (·.cps.toList))
  | [] => rfl
  | [x] => quoteS_cps x
  | x :: y :: r => by
    have ih := join_cps (y :: r)
    show (quoteS x ++ " " ++ Str.join " " ((y :: r).map quoteS)).cps.toList = quoteL x.cps.toList ++ 32 :: joinL ((y :: r).map (·.cps.toList))
    simp only [Str.cps_append, Array.toList_append]
    rw [ih, quoteS_cps, show ((" " : Str)).cps.toList = [32] from by decide +kernel, List.append_assoc]
    rfl
theorem joinS_cps (ts : List Str) : (joinS ts).cps.toList = joinL (ts.map (·.cps.toList)) := by
  unfold joinS
  rw [show Txt.join " " (ts.map quoteS) = Str.join " " (ts.map quoteS) from StrLaws.glued_eq_join _ _, join_cps]
theorem quoteS_len (x : Str) : (quoteS x).length ≤ 5 * x.length + 2 := by
  have := quoteL_len x.cps.toList
  have e : (quoteS x).length = (quoteL x.cps.toList).length := by rw [← quoteS_cps]; simp [Str.length]
  have e2 : x.length = x.cps.toList.length := by simp [Str.length]
  omega
theorem sum_quote : ∀ ts : List Str, (∀ x ∈ ts, x.length ≤ 1000) → ((ts.map quoteS).map (·.length)).sum ≤ 5002 * ts.length
  | [], _ => by simp
  | x :: r, h => by
    have := sum_quote r fun a ha => h a (List.mem_cons_of_mem _ ha)
    have h1 := h x (List.mem_cons_self ..)
    have h2 := quoteS_len x
    simp only [List.map_cons, List.sum_cons, List.length_cons]
    omega

theorem join_call {l P bm : Addr} {ps : Array Value} {ob : Obj} {vs : List Value} {ts : List Str} {Q : Value → Shared → Prop} (C : Cx w mg mb s.heap) (J : Jt P ps s.heap) (M : BMod s.heap mainGlobals mg bm ob) (G : AllBare s.gens)
    (hroom : A.depth + 2 < recursionLimit) (hh : A.handled = none) (hl : s.heap.IsList l vs.toArray) (hi : StrsAre vs ts) (hn : ts.length ≤ 1000) (hw : ∀ x ∈ ts, x.length ≤ 1000)
    (h : ∀ t' s' more, Heap.ExtBut P s.heap s'.heap → Jt P (ps ++ more) s'.heap → AllBare s'.gens → s'.os = s.os → Q (.str (joinS ts) t') s') :
    wpAny (model prog w) A (call (.ref 43) [.ref l]) Q E s := by
  refine call_def (binds := [(Str.ofString "split_command", .ref l)]) C rfl rfl (by omega) rfl rfl fun h₁ F => ?_
  refine wpAny_execs_cons (wpAny_Return_some (MethodCall_ (wpAny_Constant_str (GM.join (callWith_method1 (spliced_more ?_))))))
  refine gen_step (P := P) (bm := bm) (ob := ob) (ps := ps) (L := s.heap.objs.size) (ts := ts) (vs := vs) (l := l) C J M rfl rfl hh rfl rfl (by decide) rfl rfl rfl (by show A.depth + 1 < recursionLimit; omega) F G hl hi (ld F rfl ⟨rfl, rfl⟩) ?_ ?_ (fun _ => rfl)
  · intro C' code A' E' a t u m₂ hA hD hU ha hn₂ hm Cu
    refine Call_ (Calls.Name_function_global rfl rfl (Calls.loadGlobal_global Cu.g (mg_of Cu.X Cu.g (nm_quote w)) ?_) (by decide))
    refine callW rfl (spliced_more (wpAny_Name (wpAny_loadName_local rfl rfl hn₂ hm (spliced_none ⟨Cu.X, ?_⟩))))
    refine quote_call Cu (by have : A'.depth ≤ A.depth + 1 + 1 := hD; omega) (Nat.le_trans (hw a ha) (by decide)) fun t' s' K => ⟨.str _ _, K⟩
  · intro a s₅ more J₅ n₅ G₅ o₅ x₅ X₅
    refine spliced_none ?_
    refine join_genSK (h₀ := {}) (m := _) ⟨n₅, fun b o e => by simp [Heap.get?] at e, Nat.zero_le _⟩ G₅ X₅ (Nat.le_refl _) ?_ (fun s' t' F' G' o' k' => ?_) (by rw [sizeLine_eq]; omega)
    · have e : ts.filter (fun _ => true) = ts := by simp
      rw [e]
      refine joinOk_of ?_
      have := sum_quote ts hw
      rw [show (Str.ofString " ").length = 1 from by decide +kernel]
      simp only [List.length_map]
      omega
    · have e : ts.filter (fun _ => true) = ts := by simp
      rw [e]
      have hlow : ∀ b o, s.heap.get? b = some o → b ≤ s.heap.objs.size := fun b o e => Nat.le_of_lt (Heap.lt_size e)
      refine h t' s' more (fun b o hb e => k' b o (hlow b o e) (x₅ b o hb (F.keep b o e))) ?_ G' (o'.trans o₅)
      have hP := Nat.le_of_lt J.code.lt.2
      have h42 := Nat.le_of_lt J.code.lt.1
      have kk : ∀ b, b ≤ s.heap.objs.size → ∀ o, s₅.heap.get? b = some o → s'.heap.get? b = some o := fun b hb o e => k' b o hb e
      obtain ⟨⟨o, vs, file, tf, flags, tg, inF, text, tt, op, ho, r1, r2, r3, r4, r5, r6, hop, r7, r8, r9⟩, ⟨⟨oc, vc, hoc, hcc⟩, htP⟩⟩ := J₅
      exact ⟨⟨o, vs, file, tf, flags, tg, inF, text, tt, op, kk _ h42 _ ho, r1, r2, r3, r4, r5, r6, kk _ hP _ hop, r7, r8, r9⟩, ⟨oc, vc, kk _ h42 _ hoc, hcc⟩, kk _ hP _ htP⟩
end
end Mine

open PySem PySem.W PyProof.Rows
set_option maxRecDepth 100000
namespace Mine

theorem keptAll (h₁ : Heap) : KeptH (fun h => ∀ b o, h₁.get? b = some o → h.get? b = some o) := fun _ _ P b o e => Heap.get?_push_of_some _ (P b o e)

section
variable {prog : Program} {w : World} {A : Around} {E : Value → Shared → Prop} {s : Shared}

theorem last_item {value slice : Expr} {a : Addr} {l : List Value} {x : Value} {u : Tok} {Q : Value → Shared → Prop} (hl : s.heap.IsList a (l ++ [x]).toArray) (h : Q x s)
    (hs : subscripted slice false (.ref a) (.int (-1) u) = operate [.ref a, .int (-1) u] (getItem (.ref a) (.int (-1) u)) := by with_unfolding_all rfl) (hg : ∀ r, letTemporaryGo value (.ref a) r = pure () := by intro _; with_unfolding_all rfl) :
    wpAny (model prog w) A (subscriptTail value slice (.ref a) (.int (-1) u)) Q E s :=
  subscriptTail_builtin hl.typeIs slot_list_getitem.lookup (wpAny_getItem_list_neg hl (by decide) (by simp; omega) (by decide) (by
    have : ((-1 : Int) + ((l ++ [x]).toArray.size : Nat)).toNat = l.length := by simp; omega
    rw [this]; simp) h) hs hg
theorem last_get {a : Addr} {l : List Value} {x : Value} {u : Tok} {Q : Value → Shared → Prop} (hl : s.heap.IsList a (l ++ [x]).toArray) (h : Q x s) :
    wpAny (model prog w) A (getItem (.ref a) (.int (-1) u)) Q E s :=
  wpAny_getItem_list_neg hl (by decide) (by simp; omega) (by decide) (by
    have : ((-1 : Int) + ((l ++ [x]).toArray.size : Nat)).toNat = l.length := by simp; omega
    rw [this]; simp) h

theorem neg1 {env : Env} {p1 p2 : Pos} {k : Nat} {Q : Value → Shared → Prop} (h : ∀ t tk, Q (.int (-1) t) { s with toks := tk }) : wpAny (model prog w) A (eval (.UnaryOp .USub (.Constant (.int 1) k p1) p2) env) Q E s := minus1 h

theorem set_last {a : Addr} {l : List Value} {x v : Value} {u : Tok} {Q : Unit → Shared → Prop} (hl : s.heap.PlainList a (l ++ [x]).toArray)
    (hQ : ∀ h', h'.PlainList a (l ++ [v]).toArray → Heap.SameBut a s.heap h' → Q () { s with heap := h' }) : wpAny (model prog w) A (setItem (.ref a) (.int (-1) u) v) Q E s := by
  have hl' := hl.isList
  obtain ⟨n, ho⟩ := hl
  unfold setItem
  try with_reducible refine wpAny_holding ?_
  first | refine wpAny_bind (wpAny_pure ?_) | skip
  refine wpAny_bind (wpAny_sequenceKey hl'.typeIs (by decide) ?_)
  refine wpAny_bind (wpAny_callSpecial?_slot (name := Str.ofString "__setitem__") hl'.typeIs PySem.slot_list_setitem
    (wpAny_call_entry PySem.slot_list_setitem hl'.typeIs PySem.entry_list_setitem ?_ (PySem.args_list_setitem _ _ _)))
  show wpAny _ _ (Builtin.List.listSubscript? (.int (-1) u) >>= _) _ _ s
  refine wpAny_bind (wpAny_listSubscript_int (fitsIndex_neg (by decide) (by decide)) ?_)
  have hsz : (l ++ [x]).toArray.size = l.length + 1 := by simp
  have hidx : seqIndex? (Int.negSucc 0) (l ++ [x]).toArray.size = some l.length := by
    rw [hsz, seqIndex_neg (by decide) (by omega)]; congr 1; omega
  show wpAny _ _ ((Builtin.List.listItems (.ref a) >>= fun xs => pure ((seqIndex? (Int.negSucc 0) xs.size).bind fun i => xs[i]?.map (i, ·))) >>= _) _ _ s
  refine wpAny_bind (wpAny_bind ?_)
  show wpAny _ _ (seqItems? (.ref a) >>= _) _ _ s
  refine wpAny_bind (wpAny_seqItems ho rfl (wpAny_pure (wpAny_pure ?_)))
  rw [hidx]
  have hx : (l ++ [x]).toArray[l.length]? = some x := by simp
  simp only [Option.bind_some, hx, Option.map_some]
  have hm : Obj.mapSeq (·.setIfInBounds l.length v) { cls := .type "list", data := .seq (l ++ [x]).toArray n } = { cls := .type "list", data := .seq (l ++ [v]).toArray n } := by
    simp [Obj.mapSeq]
  have hfin : (s.heap.update a (Obj.mapSeq (·.setIfInBounds l.length v))).PlainList a (l ++ [v]).toArray :=
    ⟨n, by rw [Heap.get?_update_self _ ho (by rw [hm]; rfl), hm]⟩
  refine wpAny_bind (wpAny_setSeqItemAt ho rfl ?_)
  first
    | exact wpAny_bind (wpAny_pure (wpAny_pure ⟨.none, rfl, wpAny_pure (hQ _ hfin (Heap.SameBut.update ..))⟩))
    | exact wpAny_pure ⟨.none, rfl, wpAny_pure (hQ _ hfin (Heap.SameBut.update ..))⟩

theorem pop_last {a : Addr} {l : List Value} {x : Value} {Q : Value → Shared → Prop} (hl : s.heap.PlainList a (l ++ [x]).toArray) (hsz : l.length ≤ 1000)
    (hQ : ∀ h', h'.PlainList a l.toArray → Heap.SameBut a s.heap h' → Q x { s with heap := h' }) : wpAny (model prog w) A (call (.builtin "list.pop") [.ref a]) Q E s := by
  have hl' := hl.isList
  obtain ⟨n, ho⟩ := hl
  have hs : (l ++ [x]).toArray.size = l.length + 1 := by simp
  refine call_meets PySem.F.slot_list_pop hl'.typeIs PySem.F.entry_list_pop (PySem.F.args_list_pop_1 _) (PySem.MeetsSeq.list_pop_last a (l ++ [x]).toArray n x (by simp) (by rw [hs, sizeLine_eq]; omega)) ⟨ho, ?_⟩
  have hm : ∃ n', Obj.mapSeq (fun xs => xs.eraseIdxIfInBounds ((l ++ [x]).toArray.size - 1)) { cls := .type "list", data := .seq (l ++ [x]).toArray n } = { cls := .type "list", data := .seq l.toArray n' } := by
    have e : (l ++ [x]).toArray.eraseIdxIfInBounds ((l ++ [x]).toArray.size - 1) = l.toArray := by
      apply Array.toList_inj.mp
      rw [hs]
      simp [Array.eraseIdxIfInBounds]
      rw [List.eraseIdx_append_of_length_le (Nat.le_refl _)]
      simp
    simp only [Obj.mapSeq, e]
    exact ⟨_, rfl⟩
  obtain ⟨n', hm⟩ := hm
  refine hQ _ ⟨n', ?_⟩ (Heap.SameBut.update ..)
  rw [Heap.get?_update_self _ ho (by rw [hm]; rfl), hm]

theorem getMethod_pop {a : Addr} {items : Array Value} {pl : Sem Bool} {Q : Value × List Value → Shared → Prop} (hl : s.heap.PlainList a items) (h : Q (.builtin "list.pop", [.ref a]) s) :
    wpAny (model prog w) A (getMethod (.ref a) "pop" pl) Q E s := by
  have hl' := hl.isList
  obtain ⟨n, ho⟩ := hl
  refine getMethod_list_of PySem.F.slot_list_pop PySem.F.type_list_pop hl' ?_ h
  exact ⟨_, ho, rfl⟩

theorem slice_raw {value slice : Expr} {l : Addr} {items : Array Value} {vl vu : Value} {lo hi : Option Int} {Q : Value → Shared → Prop}
    (hl : s.heap.IsList l items) (pl : IsPart vl lo) (pu : IsPart vu hi)
    (h : ∀ h', (∀ b o, s.heap.get? b = some o → h'.get? b = some o) → h'.objs.size = s.heap.objs.size + 2 → h'.IsList (s.heap.objs.size + 1) (slicePick items lo hi none) → Q (.ref (s.heap.objs.size + 1)) { s with heap := h' })
    (hs : subscripted slice false (.ref l) (.ref s.heap.objs.size) = operate [.ref s.heap.objs.size, .ref l] (getItem (.ref l) (.ref s.heap.objs.size)) := by with_unfolding_all rfl)
    (ht : ∀ r, letTemporaryGo value (.ref l) r = pure () := by intro _; with_unfolding_all rfl)
    (hsz : items.size ≤ sizeLine := by size_fits) :
    wpAny (model prog w) A (subscriptTail value slice (.ref l) (.ref s.heap.objs.size)) Q E { s with heap := s.heap.push { cls := .type "slice", data := .fields #[vl, vu, .none] } } := by
  refine subscriptTail_ops (Heap.IsList.typeIs (s := { s with heap := s.heap.push { cls := .type "slice", data := .fields #[vl, vu, .none] } }) (hl.push _)) list_getitem_lookup
    (wpAny_getItem_list_slice (hl.push _) (Heap.IsSliceOf.new ..) pl pu .none (by simp) ?_ hsz) hs ht
  show Q (.ref (s.heap.push _).objs.size) _
  have e : (s.heap.push { cls := .type "slice", data := .fields #[vl, vu, .none] }).objs.size = s.heap.objs.size + 1 := Heap.size_push ..
  rw [e]
  refine h _ (fun b o e => Heap.get?_push_of_some _ (Heap.get?_push_of_some _ e)) (by simp only [Heap.size_push]) ?_
  rw [← e]
  exact ⟨_, Heap.get?_push_size _ rfl, rfl, _, rfl⟩

theorem cut_str {value slice : Expr} {x : Str} {t uj : Tok} {j : Int} {Q : Value → Shared → Prop} (hx : x.length ≤ 1048576)
    (h : ∀ h' t' k y, (∀ b o, s.heap.get? b = some o → h'.get? b = some o) → y.length ≤ x.length → Q (.str y t') { s with heap := h', toks := k })
    (hs : subscripted slice false (.str x t) (.ref s.heap.objs.size) = operate [.ref s.heap.objs.size, .str x t] (getItem (.str x t) (.ref s.heap.objs.size)) := by with_unfolding_all rfl)
    (ht : ∀ r, letTemporaryGo value (.str x t) r = pure () := by intro _; with_unfolding_all rfl) :
    wpAny (model prog w) A (subscriptTail value slice (.str x t) (.ref s.heap.objs.size)) Q E { s with heap := s.heap.push { cls := .type "slice", data := .fields #[.none, .int j uj, .none] } } :=
  tail_of_ItemOn (SBH.sliceItem_ns (P := fun h => ∀ b o, s.heap.get? b = some o → h.get? b = some o) (keptAll s.heap) (fun _ _ e => e) (fun h' t' k P => h h' t' k _ P (PyProof.Txt.length_slice_le x _ _)) (by rw [sizeLine_eq]; omega)) hs ht

/-- a list of words, none longer than n, no more than n -/
def Wd (n : Nat) (h : Heap) (a : Addr) (vs : List Value) (ts : List Str) : Prop := h.PlainList a vs.toArray ∧ StrsAre vs ts ∧ ts.length ≤ n ∧ ∀ x ∈ ts, x.length ≤ n

structure LI (h₀ : Heap) (L D S I : Addr) (sv : List Value) (m : Str → Option Value) (i n : Nat) (as : List Addr) (h : Heap) : Prop where
  keep : ∀ b o, h₀.get? b = some o → h.get? b = some o
  ns : h.Ns L m
  top : h.PlainList D (as.map Value.ref).toArray
  sl : h.IsList S sv.toArray
  it : h.IsListIter I S i
  each : ∀ a ∈ as, ∃ vs ts, Wd n h a vs ts
  nodup : as.Nodup
  apart : ∀ a ∈ as, a ≠ L ∧ a ≠ D ∧ a ≠ S ∧ a ≠ I ∧ h₀.get? a = none
  dd : D ≠ L ∧ D ≠ S ∧ D ≠ I ∧ h₀.get? D = none
  ll : L ≠ S ∧ L ≠ I ∧ S ≠ I ∧ h₀.get? I = none ∧ h₀.objs.size ≤ L
  len : 1 ≤ as.length ∧ as.length ≤ 7

variable {h₀ h h' : Heap} {L D S I : Addr} {sv : List Value} {m : Str → Option Value} {i n : Nat} {as : List Addr}
theorem LI.fr (X : LI h₀ L D S I sv m i n as h) : Fr h₀ L h m := ⟨X.ns, X.keep, X.ll.2.2.2.2⟩
theorem Wd.at {h h' : Heap} {a : Addr} {vs : List Value} {ts : List Str} {n : Nat} (x : Wd n h a vs ts) (hk : ∀ o, h.get? a = some o → h'.get? a = some o) : Wd n h' a vs ts := ⟨x.1.at hk, x.2⟩
theorem Wd.more {h : Heap} {a : Addr} {vs : List Value} {ts : List Str} {n k : Nat} (x : Wd n h a vs ts) (hk : n ≤ k) : Wd k h a vs ts := ⟨x.1, x.2.1, Nat.le_trans x.2.2.1 hk, fun y hy => Nat.le_trans (x.2.2.2 y hy) hk⟩
theorem LI.grow (X : LI h₀ L D S I sv m i n as h) (hk : ∀ b o, h.get? b = some o → h'.get? b = some o) : LI h₀ L D S I sv m i n as h' :=
  ⟨fun b o e => hk b o (X.keep b o e), X.ns.keeps hk, X.top.at (hk _), (let ⟨o, e, r⟩ := X.sl; ⟨o, hk _ _ e, r⟩), (let ⟨o, e, r⟩ := X.it; ⟨o, hk _ _ e, r⟩),
    fun a ha => let ⟨vs, ts, e⟩ := X.each a ha; ⟨vs, ts, e.at (hk _)⟩, X.nodup, X.apart, X.dd, X.ll, X.len⟩
theorem LI.wider {k : Nat} (X : LI h₀ L D S I sv m i n as h) (hk : n ≤ k) : LI h₀ L D S I sv m i k as h :=
  ⟨X.keep, X.ns, X.top, X.sl, X.it, fun a ha => let ⟨vs, ts, e⟩ := X.each a ha; ⟨vs, ts, e.more hk⟩, X.nodup, X.apart, X.dd, X.ll, X.len⟩
theorem ne_of_none {h₀ : Heap} {a b : Addr} {o : Obj} (h1 : h₀.get? a = none) (h2 : h₀.get? b = some o) : b ≠ a := fun e => by rw [e, h1] at h2; cases h2
/-- one of the lists changes -/
theorem LI.change {a : Addr} {vs : List Value} {ts : List Str} {k : Nat} (X : LI h₀ L D S I sv m i n as h) (ha : a ∈ as) (hs : Heap.SameBut a h h') (hk : n ≤ k) (W : Wd k h' a vs ts) : LI h₀ L D S I sv m i k as h' := by
  have hx := hs.extBut
  obtain ⟨a1, a2, a3, a4, a5⟩ := X.apart a ha
  refine ⟨fun b o e => hx b o (ne_of_none a5 e) (X.keep b o e), X.ns.extBut hx (Ne.symm a1), X.top.extBut hx (Ne.symm a2), X.sl.extBut hx (Ne.symm a3), X.it.extBut hx (Ne.symm a4), fun b hb => ?_, X.nodup, X.apart, X.dd, X.ll, X.len⟩
  by_cases e : b = a
  · subst e; exact ⟨vs, ts, W⟩
  · obtain ⟨v, t, w⟩ := X.each b hb
    exact ⟨v, t, (w.more hk).at fun o => hx b o e⟩
/-- one more list -/
theorem LI.add {a : Addr} {vs : List Value} {ts : List Str} {h'' : Heap} (X : LI h₀ L D S I sv m i n as h) (hk : ∀ b o, h.get? b = some o → h'.get? b = some o) (ha : h.get? a = none) (W : Wd n h' a vs ts)
    (hs : Heap.SameBut D h' h'') (T : h''.PlainList D ((as ++ [a]).map Value.ref).toArray) (hl : as.length < 7) : LI h₀ L D S I sv m i n (as ++ [a]) h'' := by
  have X' := X.grow hk
  have hx := hs.extBut
  have hn : ∀ b o, h.get? b = some o → b ≠ a := fun b o e => ne_of_none ha e
  obtain ⟨d1, d2, d3, d4⟩ := X.dd
  have hDa : D ≠ a := by obtain ⟨k, e⟩ := X.top; exact hn _ _ e
  have hLa : L ≠ a := by obtain ⟨o, _, _, e, _⟩ := X.ns; exact hn _ _ e
  have hSa : S ≠ a := by obtain ⟨o, e, _⟩ := X.sl; exact hn _ _ e
  have hIa : I ≠ a := by obtain ⟨o, e, _⟩ := X.it; exact hn _ _ e
  have h0a : h₀.get? a = none := by
    cases e : h₀.get? a with
    | none => rfl
    | some o => rw [X.keep a o e] at ha; cases ha
  refine ⟨fun b o e => hx b o (ne_of_none d4 e) (X'.keep b o e), X'.ns.extBut hx (Ne.symm d1), T, X'.sl.extBut hx (Ne.symm d2), X'.it.extBut hx (Ne.symm d3), fun b hb => ?_, ?_, fun b hb => ?_, X.dd, X.ll, by simp; omega⟩
  · rcases List.mem_append.mp hb with hb | hb
    · obtain ⟨v, t, w⟩ := X'.each b hb
      exact ⟨v, t, w.at fun o => hx b o (X.apart b hb).2.1⟩
    · rw [List.mem_singleton.mp hb]
      exact ⟨vs, ts, W.at fun o => hx a o (Ne.symm hDa)⟩
  · rw [List.nodup_append]
    refine ⟨X.nodup, by simp, fun b hb c hc => ?_⟩
    rw [List.mem_singleton.mp hc]
    obtain ⟨v, t, w⟩ := X.each b hb
    obtain ⟨k, e⟩ := w.1
    exact hn _ _ e
  · rcases List.mem_append.mp hb with hb | hb
    · exact X.apart b hb
    · rw [List.mem_singleton.mp hb]
      exact ⟨Ne.symm hLa, Ne.symm hDa, Ne.symm hSa, Ne.symm hIa, h0a⟩
end
end Mine

open PySem PySem.W PyProof.Rows
set_option maxRecDepth 100000
namespace Mine

theorem strs_last : ∀ {vs : List Value} {ts : List Str}, StrsAre vs ts → ts ≠ [] → ∃ iv its x t, vs = iv ++ [.str x t] ∧ ts = its ++ [x] ∧ StrsAre iv its
  | _, _, .nil, h => absurd rfl h
  | _, _, .cons y t (vs := vs) (ys := ys) r, _ => by
    cases r with
    | nil => exact ⟨[], [], y, t, rfl, rfl, .nil⟩
    | cons y' t' r' =>
      obtain ⟨iv, its, x, u, e1, e2, e3⟩ := strs_last (StrsAre.cons y' t' r') (by simp)
      exact ⟨.str y t :: iv, y :: its, x, u, by rw [e1]; rfl, by rw [e2]; rfl, .cons y t e3⟩
theorem strs_snoc {vs : List Value} {ts : List Str} (h : StrsAre vs ts) (x : Str) (t : Tok) : StrsAre (vs ++ [.str x t]) (ts ++ [x]) := h.append' (.cons x t .nil)
theorem fmod_range (k : Int) {d : Int} (h : 0 < d) : 0 ≤ k.fmod d ∧ k.fmod d < d := ⟨Int.fmod_nonneg_of_pos k h, Int.fmod_lt_of_pos k h⟩

/-- before the loop -/
structure L0 (h₀ : Heap) (L D : Addr) (m : Str → Option Value) (n : Nat) (as : List Addr) (h : Heap) : Prop where
  keep : ∀ b o, h₀.get? b = some o → h.get? b = some o
  ns : h.Ns L m
  top : h.PlainList D (as.map Value.ref).toArray
  each : ∀ a ∈ as, ∃ vs ts, Wd n h a vs ts
  nodup : as.Nodup
  apart : ∀ a ∈ as, a ≠ L ∧ a ≠ D ∧ h₀.get? a = none
  dd : D ≠ L ∧ h₀.get? D = none
  ll : h₀.objs.size ≤ L
  len : 1 ≤ as.length ∧ as.length ≤ 7
theorem L0.toLI {h₀ h h' : Heap} {L D S I : Addr} {sv : List Value} {m : Str → Option Value} {n : Nat} {as : List Addr} (X : L0 h₀ L D m n as h) (hk : ∀ b o, h.get? b = some o → h'.get? b = some o)
    (hS : h.get? S = none) (hI : h.get? I = none) (hSI : S ≠ I) (sl : h'.IsList S sv.toArray) (it : h'.IsListIter I S 0) : LI h₀ L D S I sv m 0 n as h' := by
  have nS : ∀ b o, h.get? b = some o → b ≠ S := fun b o e => ne_of_none hS e
  have nI : ∀ b o, h.get? b = some o → b ≠ I := fun b o e => ne_of_none hI e
  have hD : ∃ o, h.get? D = some o := let ⟨k, e⟩ := X.top; ⟨_, e⟩
  have hL : ∃ o, h.get? L = some o := let ⟨o, _, _, e, _⟩ := X.ns; ⟨_, e⟩
  obtain ⟨oD, hD⟩ := hD
  obtain ⟨oL, hL⟩ := hL
  have hI0 : h₀.get? I = none := by
    cases e : h₀.get? I with
    | none => rfl
    | some o => rw [X.keep I o e] at hI; cases hI
  refine ⟨fun b o e => hk b o (X.keep b o e), X.ns.keeps hk, X.top.at (hk _), sl, it, fun a ha => let ⟨vs, ts, e⟩ := X.each a ha; ⟨vs, ts, e.at (hk _)⟩, X.nodup, fun a ha => ?_, ⟨X.dd.1, nS _ _ hD, nI _ _ hD, X.dd.2⟩, ⟨nS _ _ hL, nI _ _ hL, hSI, hI0, X.ll⟩, X.len⟩
  obtain ⟨vs, ts, W⟩ := X.each a ha
  obtain ⟨k, e⟩ := W.1
  exact ⟨(X.apart a ha).1, (X.apart a ha).2.1, nS _ _ e, nI _ _ e, (X.apart a ha).2.2⟩

section
variable {prog : Program} {w : World} {A : Around} {E : Value → Shared → Prop} {s : Shared} {mg mb : Str → Option Value} {h₀ : Heap} {L a D : Addr} {m : Str → Option Value} {name : Str} {scope : Scope} {cd : Value}

theorem newl {vs : List Value} {Q : Value → Shared → Prop} (hn : vs.length ≤ 1000)
    (h : ∀ h', (∀ b o, s.heap.get? b = some o → h'.get? b = some o) → h'.PlainList s.heap.objs.size vs.toArray → h'.objs.size = s.heap.objs.size + 1 → Q (.ref s.heap.objs.size) { s with heap := h' }) : wpAny (model prog w) A (newList vs) Q E s :=
  wpAny_newList (h _ (fun b o e => Heap.get?_push_of_some _ e) ⟨_, Heap.get?_push_size _ rfl⟩ (Heap.size_push ..)) (by rw [sizeLine_eq]; omega)

theorem xmod {x : Str} {k d : Int} {t : Tok} {c : Nat} {p1 p2 p3 : Pos} {Q : Value → Shared → Prop} (F : Fr h₀ L s.heap m) (hm : m x = some (.int k t)) (hd0 : d ≠ 0) (h : ∀ t' tk, Q (.int (k.fmod d) t') { s with toks := tk })
    (hsc : scope.kind = .function := by rfl) (hx : (envOf name scope L a cd).kindOf x = some .local := by rfl) (hd : (x == ("__debug__" : Str)) = false := by decide) :
    wpAny (model prog w) A (eval (.BinOp (.Name x p1) .Mod (.Constant (.int d) c p2) p3) (envOf name scope L a cd)) Q E s :=
  wpAny_BinOp (ld F hm (wpAny_Constant_int (mod_int' hd0 (h _ _))) hsc hx hd)

theorem lastE {x : Str} {init : List Addr} {b : Addr} {c : Nat} {p1 p2 p3 p4 : Pos} {Q : Value → Shared → Prop} (F : Fr h₀ L s.heap m) (hm : m x = some (.ref D)) (top : s.heap.PlainList D ((init ++ [b]).map Value.ref).toArray) (h : ∀ tk, Q (.ref b) { s with toks := tk })
    (hsc : scope.kind = .function := by rfl) (hx : (envOf name scope L a cd).kindOf x = some .local := by rfl) (hd : (x == ("__debug__" : Str)) = false := by decide) :
    wpAny (model prog w) A (eval (.Subscript (.Name x p1) (.UnaryOp .USub (.Constant (.int 1) c p2) p3) p4) (envOf name scope L a cd)) Q E s := by
  rw [List.map_append] at top
  exact Subscript_ (ld F hm (minus1 fun t tk => last_item (s := { s with toks := tk }) top.isList (h tk)) hsc hx hd)

theorem lastW {x : Str} {init : List Addr} {b : Addr} {iv : List Value} {y : Value} {c c2 : Nat} {p1 p2 p3 p4 q1 q2 q3 : Pos} {Q : Value → Shared → Prop} (F : Fr h₀ L s.heap m) (hm : m x = some (.ref D)) (top : s.heap.PlainList D ((init ++ [b]).map Value.ref).toArray)
    (W : s.heap.PlainList b (iv ++ [y]).toArray) (h : ∀ tk, Q y { s with toks := tk })
    (hsc : scope.kind = .function := by rfl) (hx : (envOf name scope L a cd).kindOf x = some .local := by rfl) (hd : (x == ("__debug__" : Str)) = false := by decide) :
    wpAny (model prog w) A (eval (.Subscript (.Subscript (.Name x p1) (.UnaryOp .USub (.Constant (.int 1) c p2) p3) p4) (.UnaryOp .USub (.Constant (.int 1) c2 q1) q2) q3) (envOf name scope L a cd)) Q E s :=
  Subscript_ (lastE F hm top (fun _ => minus1 fun _ tk2 => kba_turn (value' := .Name (Str.ofString "q") ⟨0, 0, 0, 0⟩) (fun _ => rfl) (last_item (s := { s with toks := tk2 }) W.isList (h tk2))) hsc hx hd)

theorem isTrue_lenLt {x : Str} {d : Int} {c : Nat} {p1 p2 p3 p4 p5 : Pos} {whole : Sem Value} {l : Addr} {vs : List Value} {Q : Bool → Shared → Prop} (C : Cx w mg mb h₀) (F : Fr h₀ L s.heap m) (hm : m x = some (.ref l)) (hl : s.heap.IsList l vs.toArray)
    (hn : vs.length ≤ 1048576) (h : ∀ tk, Q (decide ((vs.length : Int) < d)) { s with toks := tk })
    (hsc : scope.kind = .function := by rfl) (hx : (envOf name scope L a cd).kindOf x = some .local := by rfl) (hlen : (envOf name scope L a cd).kindOf "len" = some .globalImplicit := by rfl)
    (hd : (x == ("__debug__" : Str)) = false := by decide) :
    wpAny (model prog w) A (isTrue (.Compare (.Call (.Name "len" p1) [.Name x p2] [] p3) [.Lt] [.Constant (.int d) c p4] p5) (envOf name scope L a cd) whole) Q E s := by
  refine wpAny_isTrue_Compare1 (Call_ (blt C F (nm_len w) boot_len (PyProof.Rows.callWith_builtin1 (spliced_more (ld F hm (spliced_none (len_list hl (by simp; omega) ?_)) hsc hx hd))) (by decide) hsc hlen))
  refine wpAny_Constant_int (wpAny_lt_int (wpAny_truthy_bool ?_))
  have e : ((vs.toArray.size : Nat) : Int) = (vs.length : Int) := by simp
  rw [e]
  exact h _

theorem strs2 {x y : Str} {t u : Tok} : StrsAre [.str x t, .str y u] [x, y] := .cons _ _ (.cons _ _ .nil)

end

theorem ifT {c : Bool} {P R : Prop} (hc : c = true) (h : P) : if c = true then P else R := by rw [if_pos hc]; exact h
theorem ifF {c : Bool} {P R : Prop} (hc : c = false) (h : R) : if c = true then P else R := by rw [if_neg (by rw [hc]; exact Bool.false_ne_true)]; exact h
theorem ifB {c : Bool} {P R : Prop} (h1 : c = true → P) (h2 : c = false → R) : if c = true then P else R := by
  cases c with
  | true => exact ifT rfl (h1 rfl)
  | false => exact ifF rfl (h2 rfl)
theorem get_none {h : Heap} {b : Addr} (hb : h.objs.size ≤ b) : h.get? b = none := by
  cases e : h.get? b with
  | none => rfl
  | some o => exact absurd (Heap.lt_size e) (Nat.not_lt.mpr hb)
section
variable {h₀ h h' h'' : Heap} {L D S I : Addr} {sv : List Value} {m m' : Str → Option Value} {i n : Nat} {as : List Addr}
theorem LI.step (X : LI h₀ L D S I sv m i n as h) (it : h'.IsListIter I S (i + 1)) (s1 : Heap.SameBut I h h') (ns : h''.Ns L m') (s2 : Heap.SameBut L h' h'') : LI h₀ L D S I sv m' (i + 1) n as h'' := by
  obtain ⟨l1, l2, l3, l4, l5⟩ := X.ll
  obtain ⟨d1, d2, d3, d4⟩ := X.dd
  have up : ∀ b o, b ≠ I → b ≠ L → h.get? b = some o → h''.get? b = some o := fun b o b1 b2 e => s2.extBut b o b2 (s1.extBut b o b1 e)
  refine ⟨fun b o e => up b o (ne_of_none l4 e) (Nat.ne_of_lt (Nat.lt_of_lt_of_le (Heap.lt_size e) l5)) (X.keep b o e), ns, X.top.at (fun o => up D o d3 d1), (let ⟨o, e, r⟩ := X.sl; ⟨o, up _ _ l3 (Ne.symm l1) e, r⟩), it.extBut s2.extBut (Ne.symm l2),
    fun a ha => let ⟨vs, ts, e⟩ := X.each a ha; ⟨vs, ts, e.at fun o => up a o (X.apart a ha).2.2.2.1 (X.apart a ha).1⟩, X.nodup, X.apart, X.dd, X.ll, X.len⟩
theorem LI.ended (X : LI h₀ L D S I sv m i n as h) (hx : Heap.ExtBut I h h') : Fr h₀ L h' m ∧ h'.IsList D (as.map Value.ref).toArray ∧ ∀ a ∈ as, ∃ vs ts, Wd n h' a vs ts := by
  obtain ⟨l1, l2, l3, l4, l5⟩ := X.ll
  exact ⟨⟨X.ns.extBut hx l2, fun b o e => hx b o (ne_of_none l4 e) (X.keep b o e), l5⟩, (X.top.at fun o => hx D o X.dd.2.2.1).isList, fun a ha => let ⟨vs, ts, e⟩ := X.each a ha; ⟨vs, ts, e.at fun o => hx a o (X.apart a ha).2.2.2.1⟩⟩
theorem Wd.snoc {a : Addr} {vs : List Value} {ts : List Str} {x : Str} {t : Tok} (sa : StrsAre vs ts) (hl : ts.length + 1 ≤ n) (hw : ∀ y ∈ ts, y.length ≤ n) (hx : x.length ≤ n) (p : h.PlainList a (vs ++ [Value.str x t]).toArray) : Wd n h a (vs ++ [Value.str x t]) (ts ++ [x]) :=
  ⟨p, strs_snoc sa x t, by simpa using hl, fun y hy => by
    rcases List.mem_append.mp hy with hy | hy
    · exact hw y hy
    · rw [List.mem_singleton.mp hy]; exact hx⟩
end

section
variable {prog : Program} {w : World} {A : Around} {E : Value → Shared → Prop} {s : Shared} {h₀ : Heap} {L a : Addr} {m : Str → Option Value} {name : Str} {scope : Scope} {cd : Value}
theorem lit_item {lit x : Str} {k d e : Int} {t : Tok} {c c2 c3 : Nat} {p1 p2 p3 p4 p5 p6 p7 : Pos} {Q : Value → Shared → Prop} (F : Fr h₀ L s.heap m) (hm : m x = some (.int k t)) (hd0 : d ≠ 0)
    (hlo : e ≤ k.fmod d) (hhi : k.fmod d - e < (lit.cps.toList.length : Int)) (hle : lit.length ≤ 1048576) (h : ∀ (ch : Nat) t' tk, Q (.str ⟨#[ch]⟩ t') { s with toks := tk })
    (hsc : scope.kind = .function := by rfl) (hx : (envOf name scope L a cd).kindOf x = some .local := by rfl) (hd : (x == ("__debug__" : Str)) = false := by decide) :
    wpAny (model prog w) A (eval (.Subscript (.Constant (.str lit) c p1) (.BinOp (.BinOp (.Name x p2) .Mod (.Constant (.int d) c2 p3) p4) .Sub (.Constant (.int e) c3 p5) p6) p7) (envOf name scope L a cd)) Q E s := by
  refine Subscript_ (wpAny_Constant_str (wpAny_BinOp (xmod F hm hd0 (fun t₁ tk₁ => wpAny_Constant_int (PyProof.Rows.sub_int ?_)) hsc hx hd)))
  obtain ⟨j, hj⟩ : ∃ j : Nat, k.fmod d - e = (j : Int) := ⟨(k.fmod d - e).toNat, by omega⟩
  rw [hj]
  exact item_sign (k := j) hle (by omega) (h _ _ _)
end
theorem swaps_list {elts : List Expr} {p : Pos} {t : Option Expr} {line : Nat} {env : Env} : swapsWith (.List elts p) t line env = pure false := rfl
end Mine

open PySem PySem.W PyProof.Rows
set_option maxRecDepth 100000
namespace Mine
section
variable {prog : Program} {w : World} {A : Around} {E : Value → Shared → Prop} {s : Shared} {mg mb : Str → Option Value} {h₀ : Heap} {L a D : Addr} {m : Str → Option Value} {name : Str} {scope : Scope} {cd : Value}
set_option maxHeartbeats 2000000 in
theorem lists_call {l : Addr} {vs : List Value} {ns : List Int} {Q : Value → Shared → Prop} (C : Cx w mg mb s.heap) (hroom : A.depth < recursionLimit) (hh : A.handled = none) (hu : A.units + 6 < cLine)
    (hl : s.heap.IsList l vs.toArray) (hi : IntsAre vs ns) (hn : ns.length ≤ 63)
    (h : ∀ (s' : Shared) (D : Addr) (as : List Addr), Keeps s s' → s'.heap.IsList D (as.map Value.ref).toArray → 1 ≤ as.length ∧ as.length ≤ 7 → (∀ a ∈ as, ∃ vs ts, Wd 16 s'.heap a vs ts) → Q (.ref D) s') :
    wpAny (model prog w) A (call (.ref 65) [.ref l]) Q E s := by
  refine call_def (binds := [(Str.ofString "script", .ref l)]) C rfl rfl hroom rfl rfl fun h₁ F => ?_
  have hL₁ : s.heap.objs.size < h₁.objs.size := F.ns.lt
  refine wpAny_execs_cons ?_
  with_reducible refine wpAny_Assign_Name ?_ swaps_list
  with_reducible refine List_ ?_
  refine spliced_more ?_
  with_reducible refine List_ ?_
  refine spliced_none (newl (by simp) fun h₂ k₂ p₂ z₂ => ?_)
  refine spliced_more ?_
  with_reducible refine List_ ?_
  refine spliced_more (wpAny_Constant_str (spliced_none (newl (by simp) fun h₃ k₃ p₃ z₃ => ?_)))
  refine spliced_more ?_
  with_reducible refine List_ ?_
  refine spliced_more (wpAny_Constant_str (spliced_none (newl (by simp) fun h₄ k₄ p₄ z₄ => ?_)))
  refine spliced_more ?_
  with_reducible refine List_ ?_
  refine spliced_more (wpAny_Constant_str (spliced_more (wpAny_Constant_str (spliced_none (newl (by simp) fun h₅ k₅ p₅ z₅ => ?_)))))
  refine spliced_more ?_
  with_reducible refine List_ ?_
  refine spliced_more (wpAny_Constant_str (spliced_none (newl (by simp) fun h₆ k₆ p₆ z₆ => ?_)))
  refine spliced_none (newl (by simp) fun h₇ k₇ p₇ z₇ => ?_)
  have F₇ : Fr s.heap s.heap.objs.size h₇ _ := F.keeps fun b o e => k₇ b o (k₆ b o (k₅ b o (k₄ b o (k₃ b o (k₂ b o e)))))
  refine stK F₇ fun h₈ F₈ x₈ _ => ?_
  have hm₈ : ∃ m₈, Fr s.heap s.heap.objs.size h₈ m₈ ∧ m₈ (Str.ofString "lists") = some (.ref h₆.objs.size) ∧ m₈ (Str.ofString "script") = some (.ref l) := ⟨_, F₈, rfl, rfl⟩
  clear F₈ F₇
  obtain ⟨m₈, F₈, ml, ms⟩ := hm₈
  dsimp only at *
  have e₈ : ∀ b o, b ≠ s.heap.objs.size → h₇.get? b = some o → h₈.get? b = some o := x₈.extBut
  have none_of : ∀ b, s.heap.objs.size ≤ b → s.heap.get? b = none := fun b hb => by
    cases e : s.heap.get? b with
    | none => rfl
    | some o => exact absurd (Heap.lt_size e) (Nat.not_lt.mpr hb)
  have X₀ : L0 s.heap s.heap.objs.size h₆.objs.size m₈ 2 [h₁.objs.size, h₂.objs.size, h₃.objs.size, h₄.objs.size, h₅.objs.size] h₈ := by
    refine ⟨F₈.keep, F₈.ns, (p₇.at fun o e => e₈ _ o (Nat.ne_of_gt (by omega)) e), ?_, ?_, ?_, ⟨Nat.ne_of_gt (by omega), none_of _ (by omega)⟩, Nat.le_refl _, by simp⟩
    · intro a ha
      simp only [List.mem_cons, List.not_mem_nil, or_false] at ha
      have lift : ∀ b o, s.heap.objs.size < b → h₇.get? b = some o → h₈.get? b = some o := fun b o hb e => e₈ b o (Nat.ne_of_gt hb) e
      rcases ha with rfl | rfl | rfl | rfl | rfl
      · exact ⟨[], [], p₂.at fun o e => lift _ o (by omega) (k₇ _ o (k₆ _ o (k₅ _ o (k₄ _ o (k₃ _ o e))))), .nil, by simp, by simp⟩
      · exact ⟨_, _, p₃.at fun o e => lift _ o (by omega) (k₇ _ o (k₆ _ o (k₅ _ o (k₄ _ o e)))), .cons _ _ .nil, by simp, by intro x hx; rw [List.mem_singleton.mp hx]; decide +kernel⟩
      · exact ⟨_, _, p₄.at fun o e => lift _ o (by omega) (k₇ _ o (k₆ _ o (k₅ _ o e))), .cons _ _ .nil, by simp, by intro x hx; rw [List.mem_singleton.mp hx]; decide +kernel⟩
      · refine ⟨_, _, p₅.at fun o e => lift _ o (by omega) (k₇ _ o (k₆ _ o e)), strs2, by simp, ?_⟩
        intro x hx
        rcases List.mem_cons.mp hx with rfl | hx
        · decide +kernel
        · rw [List.mem_singleton.mp hx]; decide +kernel
      · exact ⟨_, _, p₆.at fun o e => lift _ o (by omega) (k₇ _ o e), .cons _ _ .nil, by simp, by intro x hx; rw [List.mem_singleton.mp hx]; decide +kernel⟩
    · have c1 : h₁.objs.size ≠ h₂.objs.size := by omega
      have c2 : h₁.objs.size ≠ h₃.objs.size := by omega
      have c3 : h₁.objs.size ≠ h₄.objs.size := by omega
      have c4 : h₁.objs.size ≠ h₅.objs.size := by omega
      have c5 : h₂.objs.size ≠ h₃.objs.size := by omega
      have c6 : h₂.objs.size ≠ h₄.objs.size := by omega
      have c7 : h₂.objs.size ≠ h₅.objs.size := by omega
      have c8 : h₃.objs.size ≠ h₄.objs.size := by omega
      have c9 : h₃.objs.size ≠ h₅.objs.size := by omega
      have c0 : h₄.objs.size ≠ h₅.objs.size := by omega
      simp only [List.nodup_cons, List.mem_cons, List.not_mem_nil, or_false, not_or, not_false_eq_true, List.nodup_nil, and_true]
      exact ⟨⟨c1, c2, c3, c4⟩, ⟨c5, c6, c7⟩, ⟨c8, c9⟩, c0⟩
    · intro a ha
      simp only [List.mem_cons, List.not_mem_nil, or_false] at ha
      have tri : ∀ b, s.heap.objs.size < b → b < h₆.objs.size → b ≠ s.heap.objs.size ∧ b ≠ h₆.objs.size ∧ s.heap.get? b = none := fun b h1 h2 => ⟨Nat.ne_of_gt h1, Nat.ne_of_lt h2, none_of b (Nat.le_of_lt h1)⟩
      rcases ha with rfl | rfl | rfl | rfl | rfl <;> exact tri _ (by omega) (by omega)
  clear e₈ none_of
  have hva := hi.length
  have C₈ : Cx w mg mb h₈ := C.keeps F₈.keep
  generalize hD : h₆.objs.size = D at *
  generalize hAs : [h₁.objs.size, h₂.objs.size, h₃.objs.size, h₄.objs.size, h₅.objs.size] = as₀ at *
  refine wpAny_execs_cons (wpAny_For (Subscript_ (ld F₈ ms (wpAny_Slice (evalPart_none_step (evalPart_some_step (wpAny_Constant_int (evalPart_none_step ?_))))))))
  refine slice_raw (F₈.lst hl) .none (.int _ _) (fun h₉ k₉ z₉ l₉ => ?_) (by with_unfolding_all rfl) (by intro _; with_unfolding_all rfl) (by rw [sizeLine_eq]; simp; omega)
  rw [show (14 : Int) = ((14 : Nat) : Int) from rfl, slicePick_upto'] at l₉
  have z₉' : h₉.objs.size = h₈.objs.size + 2 := z₉
  have l₉' : h₉.IsList (h₈.objs.size + 1) (vs.take 14).toArray := l₉
  refine wpAny_pyIter_list l₉' ?_
  have X₉ : LI s.heap s.heap.objs.size D (h₈.objs.size + 1) h₉.objs.size (vs.take 14) m₈ 0 2 as₀ (h₉.push { cls := .type "list_iterator", data := .fields #[.ref (h₈.objs.size + 1), .int 0 0] }) :=
    X₀.toLI (fun b o e => Heap.get?_push_of_some _ (k₉ b o e)) (get_none (Nat.le_succ _)) (get_none (Nat.le_of_lt (by omega))) (Nat.ne_of_lt (by omega)) (l₉'.push _) ⟨_, Heap.get?_push_size _ rfl, rfl, rfl⟩
  have hit := hi.take 14
  have hlv : (vs.take 14).length ≤ 14 := by simp; omega
  generalize vs.take 14 = sv at *
  generalize ns.take 14 = sn at *
  generalize h₈.objs.size + 1 = S at *
  generalize h₉.objs.size = I at *
  refine codeAny_forLoop (fun n s' => ∃ h' tk m' i as, s' = { s with heap := h', toks := tk } ∧ LI s.heap s.heap.objs.size D S I sv m' i (i + 2) as h' ∧ m' (Str.ofString "lists") = some (.ref D) ∧ i ≤ sv.length ∧ n = sv.length - i) ?_ sv.length
    ⟨_, _, m₈, 0, as₀, rfl, X₉, ml, Nat.zero_le _, rfl⟩
  rintro n s' ⟨h', tk, m', i, as, rfl, X, hml, hi', rfl⟩
  cases hv : sv.toArray[i]? with
  | none =>
    refine wpAny_pyNext_list_end hh X.it X.sl hv fun h₁₀ e₁₀ => wpAny_execs_nil ?_
    obtain ⟨F₁₀, L₁₀, W₁₀⟩ := X.ended e₁₀
    refine wpAny_execs_cons (wpAny_Return_some (ld F₁₀ hml ?_))
    exact h _ D as ⟨h₁₀, tk, rfl, F₁₀.keep⟩ L₁₀ X.len fun a ha => let ⟨v, t, W⟩ := W₁₀ a ha; ⟨v, t, W.more (by omega)⟩
  | some v =>
    have hv' : sv[i]? = some v := by simpa using hv
    have hlt : i < sv.length := (List.getElem?_eq_some_iff.mp hv').1
    have hlt2 : i < sn.length := by rw [← hit.length]; exact hlt
    obtain ⟨tv, htv⟩ := hit.get i sn[i] (List.getElem?_eq_getElem hlt2)
    rw [hv'] at htv
    have hvk : v = .int sn[i] tv := Option.some.inj htv
    generalize sn[i] = k at *
    subst hvk
    refine wpAny_pyNext_list_item X.it X.sl hv fun h₁₀ it₁₀ s₁₀ => ?_
    refine wpAny_assign_Name (wpAny_storeName_local rfl (X.ns.sameBut s₁₀ X.ll.2.1) (fun h₁₁ n₁₁ s₁₁ => ?_))
    have hmm : ∃ m₁, LI s.heap s.heap.objs.size D S I sv m₁ (i + 1) (i + 2) as h₁₁ ∧ m₁ (Str.ofString "lists") = some (.ref D) ∧ m₁ (Str.ofString "x") = some (.int k tv) := ⟨_, X.step it₁₀ s₁₀ n₁₁ s₁₁, (if_neg (by decide)).trans hml, rfl⟩
    clear n₁₁
    obtain ⟨m₁, X₁, hml₁, hmx⟩ := hmm
    have fin : ∀ (h₃ : Heap) (tk : Nat) (as' : List Addr), LI s.heap s.heap.objs.size D S I sv m₁ (i + 1) (i + 3) as' h₃ → ∃ n', n' < sv.length - i ∧ ∃ h' tk' m' i as, ({ s with heap := h₃, toks := tk } : Shared) = { s with heap := h', toks := tk' } ∧ LI s.heap s.heap.objs.size D S I sv m' i (i + 2) as h' ∧ m' (Str.ofString "lists") = some (.ref D) ∧ i ≤ sv.length ∧ n' = sv.length - i :=
      fun h₃ tk as' Y => ⟨sv.length - (i + 1), by omega, h₃, tk, m₁, i + 1, as', rfl, Y, hml₁, hlt, rfl⟩
    have hne : as ≠ [] := fun e => by have := X₁.len.1; rw [e] at this; simp at this
    obtain ⟨init, b, rfl⟩ : ∃ init b, as = init ++ [b] := ⟨as.dropLast, as.getLast hne, (List.dropLast_concat_getLast hne).symm⟩
    have hbm : b ∈ init ++ [b] := by simp
    obtain ⟨wv, wt, W⟩ := X₁.each b hbm
    have hwl := W.2.1.length
    have hw2 := W.2.2.1
    have hr := fmod_range k (d := 16) (by decide)
    have hu3 : A.units + 3 < cLine := by omega
    refine wpAny_execs_cons (wpAny_If (isTrue_and (wpAny_isTrue_Compare1 (xmod X₁.fr hmx (by decide) fun t₁ tk₁ => wpAny_Constant_int (PyProof.Rows.eq_int (wpAny_truthy_bool ?_))))))
    by_cases q1 : k.fmod 16 = 1
    · refine ifT (show (k.fmod 16 == 1) = true from by simpa using q1) ?_
      refine isTrue_and (isTrue_lenLt C X₁.fr hml₁ X₁.top.isList (by have := X₁.len.2; simp at this ⊢; omega) fun tk₂ => ?_)
      by_cases q7 : (init ++ [b]).length < 7
      · refine ifT (show decide (((List.map Value.ref (init ++ [b])).length : Int) < 7) = true from by simp at q7 ⊢; omega) ?_
        refine isTrue_and_nil ?_
        refine ifT rfl ?_
        obtain ⟨nd, ed⟩ := id X₁.top
        obtain ⟨nz, ez⟩ := id W.1
        refine wpAny_execs_cons (wpAny_Expr_any (MethodCall_ (ld X₁.fr hml₁ (Calls.getMethod_list_append ed rfl rfl (callWith_method1 (spliced_more (Call_ (blt C X₁.fr (nm_list w) boot_list (callWith_type1 (spliced_more (lastE X₁.fr hml₁ X₁.top fun tkz => ?_)))))))))))
        refine spliced_none (call_list_seq b (.inl rfl) ez rfl rfl (fun h₁₂ c₁₂ k₁₂ p₁₂ => ?_) (by rw [sizeLine_eq]; simp; omega))
        refine spliced_none (wpAny_list_append_plain (X₁.top.at (k₁₂ _)) (fun h₂₀ p₂₀ s₂₀ => ?_) (by rw [sizeLine_eq]; simp at q7 ⊢; omega))
        repeat refine wpAny_execs_nil ?_
        exact fin _ _ _ ((X₁.add k₁₂ (get_none (Nat.le_refl _)) (vs := wv) (ts := wt) ⟨⟨_, p₁₂⟩, W.2⟩ s₂₀ (by simpa using p₂₀) q7).wider (Nat.le_succ _))
      · refine ifF (show decide (((List.map Value.ref (init ++ [b])).length : Int) < 7) = false from by simp at q7 ⊢; omega) ?_
        refine ifF rfl ?_
        refine wpAny_execs_cons (wpAny_If (isTrue_or (wpAny_isTrue_Compare1 (xmod X₁.fr hmx (by decide) fun t₁ tk₁ => wpAny_Constant_int (wpAny_lt_int (wpAny_truthy_bool ?_))))))
        refine ifT (show decide (k.fmod 16 < 2) = true from by simp; omega) ?_
        refine ifT rfl ?_
        refine wpAny_execs_cons (wpAny_Expr_any (MethodCall_ (lastE X₁.fr hml₁ X₁.top fun tkz => ?_)))
        obtain ⟨nz, ez⟩ := id W.1
        refine Calls.getMethod_list_append ez rfl rfl (callWith_method1 (spliced_more (wpAny_Constant_str (spliced_none ?_))))
        refine wpAny_list_append_plain W.1 (fun h₂₀ p₂₀ s₂₀ => ?_) (by rw [sizeLine_eq]; simp; omega)
        repeat refine wpAny_execs_nil ?_
        exact fin _ _ _ (X₁.change hbm s₂₀ (Nat.le_succ _) (Wd.snoc W.2.1 (by omega) (fun y hy => Nat.le_succ_of_le (W.2.2.2 y hy)) (Nat.le_trans (by decide +kernel : (Str.ofString "").length ≤ 0) (Nat.zero_le _)) (by simpa using p₂₀)))
    · refine ifF (show (k.fmod 16 == 1) = false from by simpa using q1) ?_
      refine ifF rfl ?_
      refine wpAny_execs_cons (wpAny_If (isTrue_or (wpAny_isTrue_Compare1 (xmod X₁.fr hmx (by decide) fun t₁ tk₁ => wpAny_Constant_int (wpAny_lt_int (wpAny_truthy_bool ?_))))))
      by_cases q2 : k.fmod 16 < 2
      · refine ifT (show decide (k.fmod 16 < 2) = true from by simpa using q2) ?_
        refine ifT rfl ?_
        refine wpAny_execs_cons (wpAny_Expr_any (MethodCall_ (lastE X₁.fr hml₁ X₁.top fun tkz => ?_)))
        obtain ⟨nz, ez⟩ := id W.1
        refine Calls.getMethod_list_append ez rfl rfl (callWith_method1 (spliced_more (wpAny_Constant_str (spliced_none ?_))))
        refine wpAny_list_append_plain W.1 (fun h₂₀ p₂₀ s₂₀ => ?_) (by rw [sizeLine_eq]; simp; omega)
        repeat refine wpAny_execs_nil ?_
        exact fin _ _ _ (X₁.change hbm s₂₀ (Nat.le_succ _) (Wd.snoc W.2.1 (by omega) (fun y hy => Nat.le_succ_of_le (W.2.2.2 y hy)) (Nat.le_trans (by decide +kernel : (Str.ofString "").length ≤ 0) (Nat.zero_le _)) (by simpa using p₂₀)))
      · refine ifF (show decide (k.fmod 16 < 2) = false from by simpa using q2) ?_
        refine isTrue_or (wpAny_isTrue_Compare1 (lastE X₁.fr hml₁ X₁.top fun tkz => List_ (spliced_none (newl (by simp) fun h₁₂ k₁₂ p₁₂ z₁₂ => ?_))))
        have X₂ := X₁.grow k₁₂
        have W₂ : Wd (i + 2) h₁₂ b wv wt := W.at (k₁₂ _)
        refine eq_nil W₂.1.isList p₁₂.isList hu3 (wpAny_truthy_bool ?_)
        by_cases q3 : wt = []
        · refine ifT (show (wv.toArray.size == 0) = true from by rw [q3] at hwl; simpa using hwl) ?_
          refine ifT rfl ?_
          refine wpAny_execs_cons (wpAny_Expr_any (MethodCall_ (lastE X₂.fr hml₁ X₂.top fun tkz => ?_)))
          obtain ⟨nz, ez⟩ := id W₂.1
          refine Calls.getMethod_list_append ez rfl rfl (callWith_method1 (spliced_more (wpAny_Constant_str (spliced_none ?_))))
          refine wpAny_list_append_plain W₂.1 (fun h₂₀ p₂₀ s₂₀ => ?_) (by rw [sizeLine_eq]; simp; omega)
          repeat refine wpAny_execs_nil ?_
          exact fin _ _ _ (X₂.change hbm s₂₀ (Nat.le_succ _) (Wd.snoc W₂.2.1 (by omega) (fun y hy => Nat.le_succ_of_le (W₂.2.2.2 y hy)) (Nat.le_trans (by decide +kernel : (Str.ofString "").length ≤ 0) (Nat.zero_le _)) (by simpa using p₂₀)))
        · have hwp : wt.length ≠ 0 := fun e => q3 (List.eq_nil_of_length_eq_zero e)
          refine ifF (show (wv.toArray.size == 0) = false from by simp; intro e; apply q3; rw [e] at hwl; exact List.eq_nil_of_length_eq_zero (by simpa using hwl.symm)) ?_
          refine isTrue_or_nil ?_
          refine ifF rfl ?_
          obtain ⟨iv, its, y, ty, rfl, rfl, sa⟩ := strs_last W₂.2.1 q3
          have hyl : y.length ≤ i + 2 := W₂.2.2.2 y (by simp)
          have hwi : ∀ z ∈ its, z.length ≤ i + 3 := fun z hz => Nat.le_succ_of_le (W₂.2.2.2 z (List.mem_append_left _ hz))
          have hil : its.length + 1 ≤ i + 2 := by simpa using hw2
          have hivl := sa.length
          refine wpAny_execs_cons (wpAny_If (isTrue_and (wpAny_isTrue_Compare1 (xmod X₂.fr hmx (by decide) fun t₁ tk₁ => wpAny_Constant_int (PyProof.Rows.eq_int (wpAny_truthy_bool ?_))))))
          by_cases q4 : k.fmod 16 = 2
          · refine ifT (show (k.fmod 16 == 2) = true from by simpa using q4) ?_
            refine isTrue_and (wpAny_isTrue_Compare1 (lastW X₂.fr hml₁ X₂.top W₂.1 fun tky => wpAny_Constant_str (PyProof.Rows.eq_str (wpAny_truthy_bool ?_))))
            refine ifB (fun _ => ?_) fun _ => ?_
            · refine isTrue_and_nil ?_
              refine ifT rfl ?_
              refine wpAny_execs_cons (wpAny_Expr_any (MethodCall_ (lastE X₂.fr hml₁ X₂.top fun tkw => getMethod_pop W₂.1 (callWith_method0 (pop_last W₂.1 (by omega) fun h₂₀ p₂₀ s₂₀ => ?_)))))
              repeat refine wpAny_execs_nil ?_
              exact fin _ _ _ (X₂.change hbm s₂₀ (Nat.le_succ _) ⟨p₂₀, sa, by omega, hwi⟩)
            · refine ifF rfl ?_
              refine wpAny_execs_cons (wpAny_If (wpAny_isTrue_Compare1 (xmod X₂.fr hmx (by decide) fun t₁ tk₁ => wpAny_Constant_int (PyProof.Rows.eq_int (wpAny_truthy_bool ?_)))))
              refine ifT (show (k.fmod 16 == 2) = true from by simpa using q4) ?_
              refine wpAny_execs_cons (wpAny_Assign_Subscript (Subscript_ (lastW X₂.fr hml₁ X₂.top W₂.1 fun tkw => wpAny_Slice (evalPart_none_step (evalPart_some_step (minus1 fun tn tkn => evalPart_none_step ?_))))))
              refine cut_str (by omega) fun h₁₃ t₁₃ k₁₃ y₁₃ kk₁₃ ly₁₃ => ?_
              have X₃ := X₂.grow kk₁₃
              have W₃ := W₂.at (kk₁₃ _)
              refine lastE X₃.fr hml₁ X₃.top fun tkv => minus1 fun tn' tkn' => set_last W₃.1 fun h₂₀ p₂₀ s₂₀ => ?_
              repeat refine wpAny_execs_nil ?_
              exact fin _ _ _ (X₃.change hbm s₂₀ (Nat.le_succ _) (Wd.snoc sa (by omega) hwi (by omega) p₂₀))
          · refine ifF (show (k.fmod 16 == 2) = false from by simpa using q4) ?_
            refine ifF rfl ?_
            refine wpAny_execs_cons (wpAny_If (wpAny_isTrue_Compare1 (xmod X₂.fr hmx (by decide) fun t₁ tk₁ => wpAny_Constant_int (PyProof.Rows.eq_int (wpAny_truthy_bool ?_)))))
            refine ifF (show (k.fmod 16 == 2) = false from by simpa using q4) ?_
            refine wpAny_execs_cons (wpAny_If (wpAny_isTrue_Compare1 (xmod X₂.fr hmx (by decide) fun t₁ tk₁ => wpAny_Constant_int (PyProof.Rows.eq_int (wpAny_truthy_bool ?_)))))
            by_cases q5 : k.fmod 16 = 15
            · refine ifT (show (k.fmod 16 == 15) = true from by simpa using q5) ?_
              refine wpAny_execs_cons (wpAny_AugAssign_Subscript_any (lastE X₂.fr hml₁ X₂.top fun tkw => minus1 fun tn tkn => last_get W₂.1.isList ?_))
              refine Call_ (blt C X₂.fr (nm_chr w) boot_chr (PyProof.Rows.callWith_builtin1 (spliced_more (wpAny_BinOp (wpAny_BinOp (ld X₂.fr hmx (wpAny_Constant_int (floordiv_int (by decide) ?_))))))))
              refine wpAny_Constant_int (mod_int' (by decide) (spliced_none ?_))
              have hc := fmod_range (k.fdiv 16) (d := 55296) (by decide)
              refine chr_of_range hc.1 (by omega) ?_
              refine iadd_str (fun t₁₄ tk₁₄ => set_last W₂.1 fun h₂₀ p₂₀ s₂₀ => ?_) (by rw [sizeLine_eq]; simp [Str.length] at hyl ⊢; omega)
              repeat refine wpAny_execs_nil ?_
              exact fin _ _ _ (X₂.change hbm s₂₀ (Nat.le_succ _) (Wd.snoc sa (by omega) hwi (by rw [Str.length_append]; have : Str.length ⟨#[((k.fdiv 16).fmod 55296).toNat]⟩ = 1 := rfl; omega) p₂₀))
            · refine ifF (show (k.fmod 16 == 15) = false from by simpa using q5) ?_
              refine wpAny_execs_cons (wpAny_AugAssign_Subscript_any (lastE X₂.fr hml₁ X₂.top fun tkw => minus1 fun tn tkn => last_get W₂.1.isList ?_))
              refine lit_item X₂.fr hmx (by decide) (by omega) (Int.lt_of_lt_of_le (by omega : k.fmod 16 - 3 < 12) (Int.ofNat_le.mpr (by decide +kernel))) (by decide +kernel) fun ch t₁ tk₁ => ?_
              refine iadd_str (fun t₁₄ tk₁₄ => set_last W₂.1 fun h₂₀ p₂₀ s₂₀ => ?_) (by rw [sizeLine_eq]; simp [Str.length] at hyl ⊢; omega)
              repeat refine wpAny_execs_nil ?_
              exact fin _ _ _ (X₂.change hbm s₂₀ (Nat.le_succ _) (Wd.snoc sa (by omega) hwi (by rw [Str.length_append]; simp [Str.length] at hyl ⊢; omega) p₂₀))
end
end Mine

open PySem PySem.W PyProof.Rows
set_option maxRecDepth 100000
namespace Mine

theorem list_ne_ns {h : Heap} {a L : Addr} {its : Array Value} {m : Str → Option Value} (hl : h.IsList a its) (hn : h.Ns L m) : a ≠ L := by
  rintro rfl
  obtain ⟨o, e, _, n, d⟩ := hl
  obtain ⟨o', es, ep, e', d', _⟩ := hn
  rw [e] at e'; cases e'; rw [d] at d'; cases d'

theorem ne1 {a b : Nat} (h : a < b ∨ b < a) : a ≠ b := by omega

/-- what holds between the law's statements -/
structure CS (w : World) (mg mb : Str → Option Value) (s : Shared) (P L D : Addr) (m : Str → Option Value) (as : List Addr) (v : Addr → List Value) (t : Addr → List Str) (s' : Shared) : Prop where
  base : ∃ hb ps bm ob, Based s.heap hb 42 P ps ∧ Fr hb L s'.heap m ∧ Cx w mg mb hb ∧ BMod hb mainGlobals mg bm ob
  top : s'.heap.IsList D (as.map Value.ref).toArray
  each : ∀ a ∈ as, Wd 16 s'.heap a (v a) (t a)
  bare : AllBare s'.gens
  os : s'.os = s.os

section
variable {w : World} {mg mb : Str → Option Value} {s s' s'' : Shared} {P L D : Addr} {m m' : Str → Option Value} {as : List Addr} {v : Addr → List Value} {t : Addr → List Str}

theorem CS.fr (X : CS w mg mb s P L D m as v t s') : ∃ hb, Cx w mg mb hb ∧ Fr hb L s'.heap m ∧ OldK s.heap s'.heap := by
  obtain ⟨hb, ps, bm, ob, B, F, C, M⟩ := X.base
  exact ⟨hb, C, F, B.finish F⟩
theorem CS.ns (X : CS w mg mb s P L D m as v t s') : s'.heap.Ns L m := by
  obtain ⟨hb, ps, bm, ob, B, F, C, M⟩ := X.base
  exact F.ns
theorem CS.keep (X : CS w mg mb s P L D m as v t s') (hk : ∀ b o, s'.heap.get? b = some o → s''.heap.get? b = some o) (hg : s''.gens = s'.gens) (ho : s''.os = s'.os) : CS w mg mb s P L D m as v t s'' := by
  obtain ⟨hb, ps, bm, ob, B, F, C, M⟩ := X.base
  exact ⟨⟨hb, ps, bm, ob, B, F.keeps hk, C, M⟩, (let ⟨o, e, r⟩ := X.top; ⟨o, hk _ _ e, r⟩), fun a ha => (X.each a ha).at (hk _), hg ▸ X.bare, ho.trans X.os⟩
theorem CS.other {a : Addr} (X : CS w mg mb s P L D m as v t s') (hx : Heap.ExtBut a s'.heap s''.heap) (ha : s.heap.get? a = none) (hL : a ≠ L) (hD : a ≠ D) (hA : a ∉ as) (hg : s''.gens = s'.gens) (ho : s''.os = s'.os) : CS w mg mb s P L D m as v t s'' := by
  obtain ⟨hb, ps, bm, ob, B, F, C, M⟩ := X.base
  have hb0 := B.fresh ha
  refine ⟨⟨hb, ps, bm, ob, B, ⟨F.ns.extBut hx (Ne.symm hL), fun b o e => hx b o (ne_of_none hb0 e) (F.keep b o e), F.above⟩, C, M⟩, X.top.extBut hx (Ne.symm hD), fun b hb => (X.each b hb).at fun o e => hx b o (fun q => hA (q ▸ hb)) e, hg ▸ X.bare, ho.trans X.os⟩
theorem CS.store (X : CS w mg mb s P L D m as v t s') (hn : s''.heap.Ns L m') (hx : Heap.SameBut L s'.heap s''.heap) (hg : s''.gens = s'.gens) (ho : s''.os = s'.os) : CS w mg mb s P L D m' as v t s'' := by
  obtain ⟨hb, ps, bm, ob, B, F, C, M⟩ := X.base
  have he := hx.extBut
  refine ⟨⟨hb, ps, bm, ob, B, ⟨hn, fun b o e => he b o (Nat.ne_of_lt (Nat.lt_of_lt_of_le (Heap.lt_size e) F.above)) (F.keep b o e), F.above⟩, C, M⟩, X.top.extBut he (list_ne_ns X.top F.ns), fun b hb => (X.each b hb).at fun o e => he b o (list_ne_ns (X.each b hb).1.isList F.ns) e, hg ▸ X.bare, ho.trans X.os⟩
theorem CS.grow {hb : Heap} {ps more : Array Value} {bm : Addr} {ob : Obj} (X : CS w mg mb s P L D m as v t s') (B : Based s.heap hb 42 P ps) (F : Fr hb L s'.heap m) (C : Cx w mg mb hb) (M : BMod hb mainGlobals mg bm ob)
    (hx : Heap.ExtBut P s'.heap s''.heap) (J : Jt P (ps ++ more) s''.heap) (hg : AllBare s''.gens) (ho : s''.os = s'.os) : CS w mg mb s P L D m as v t s'' := by
  obtain ⟨B', F'⟩ := B.grow F hx J.code J.tab
  have hup : Heap.ExtBut P hb (regrown hb P (ps ++ more)) := fun b o q e => (Heap.get?_update_other _ _ (Ne.symm q)).trans e
  have lP : ∀ {a its}, s'.heap.IsList a its → a ≠ P := fun {a its} hl e => by
    obtain ⟨o, ho, hc, _⟩ := hl
    rw [e, (B.tabAt F).2] at ho; cases ho; exact absurd hc (by simp)
  exact ⟨⟨_, _, bm, ob, B', F', C.but ⟨B.code, B.tab⟩ hup, M.extBut B.tab hup⟩, X.top.extBut hx (lP X.top), fun b hb => (X.each b hb).at fun o e => hx b o (lP (X.each b hb).1.isList) e, hg, ho.trans X.os⟩
end

def cscope : Scope := { kind := .function, names := [(Str.ofString ".0", .local), (Str.ofString "words", .local), (Str.ofString "join", .globalImplicit)], isGenerator := false, isCoroutine := false, more := [] }

section
variable {prog : Program} {w : World} {A : Around} {E : Value → Shared → Prop} {s s' : Shared} {mg mb : Str → Option Value} {P L D a : Addr} {m : Str → Option Value} {as : List Addr} {v : Addr → List Value} {t : Addr → List Str} {name : Str} {scope : Scope} {cd : Value}

set_option maxHeartbeats 1000000 in
theorem comp_lines {py q1 q2 q3 px pl pos spos : Pos} {Q : Flow → Shared → Prop} (X : CS w mg mb s P L D m as v t s') (hm : m (Str.ofString "lists") = some (.ref D)) (hn7 : as.length ≤ 7) (hroom : A.depth + 2 < recursionLimit) (hh : A.handled = none)
    (hsw : swapsWith (.ListComp (.Call (.Name "join" q1) [.Name "words" q2] [] q3) [⟨.Name "words" px, .Name "lists" pl, [], 0⟩] cscope pos) (some (.Name "lines" py)) spos.line (envOf name scope L a cd) = pure true)
    (hsc : scope.kind = .function) (hk1 : (envOf name scope L a cd).kindOf "lists" = some .local) (hk2 : (envOf name scope L a cd).kindOf "lines" = some .local) (hp : ((envOf name scope L a cd).scope.kind == .class || ((envOf name scope L a cd).scope.kind == .module && (envOf name scope L a cd).locals != (envOf name scope L a cd).globals)) = false)
    (h : ∀ (s'' : Shared) (D2 : Addr) (ys : List Value), CS w mg mb s P L D (fun z => if z = Str.ofString "lines" then some (.ref D2) else m z) as v t s'' → s''.heap.PlainList D2 ys.toArray → StrsAre ys (as.map fun a => joinS (t a)) → Q .next s'') :
    wpAny (model prog w) A (exec (.Assign [.Name "lines" py] (.ListComp (.Call (.Name "join" q1) [.Name "words" q2] [] q3) [⟨.Name "words" px, .Name "lists" pl, [], 0⟩] cscope pos) spos) (envOf name scope L a cd)) Q E s' := by
  rw [exec_Assign_Name_used _ _ _ _ hsw]
  refine wpAny_bind (wpAny_standAt (wpAny_bind ?_))
  show wpAny _ A (do let _ ← comprehension (.ListComp (.Call (.Name "join" q1) [.Name "words" q2] [] q3) [⟨.Name "words" px, .Name "lists" pl, [], 0⟩] cscope pos) cscope (envOf name scope L a cd) _ (newList []) false (eval (.Name "lists" pl) (envOf name scope L a cd)) (some (assign (.Name "lines" py) (envOf name scope L a cd)))) _ _ s'
  refine wpAny_bind (wpAny_mono (wpAny_comprehension_free (cl := []) (use := some (assign (.Name "lines" py) (envOf name scope L a cd))) (Q := fun _ s' => Q .next s') rfl (by intro _; rfl) (closureFor_none (by decide)) rfl (by decide) ?_) (fun _ s' hq => wpAny_pure (wpAny_pure hq)) fun _ _ e => e)
  obtain ⟨hb, ps, bm, ob, B, F, C, M⟩ := X.base
  refine ld F hm (wpAny_pyIter_list X.top ?_) hsc hk1
  generalize hI : s'.heap.objs.size = I at *
  have kI : ∀ b o, s'.heap.get? b = some o → (s'.heap.push { cls := .type "list_iterator", data := .fields #[.ref D, .int 0 0] }).get? b = some o := fun b o e => Heap.get?_push_of_some _ e
  have iI : (s'.heap.push { cls := .type "list_iterator", data := .fields #[.ref D, .int 0 0] }).IsListIter I D 0 := ⟨_, hI ▸ Heap.get?_push_size _ rfl, rfl, rfl⟩
  have zI : (s'.heap.push { cls := .type "list_iterator", data := .fields #[.ref D, .int 0 0] }).objs.size = I + 1 := hI ▸ Heap.size_push ..
  generalize s'.heap.push { cls := .type "list_iterator", data := .fields #[.ref D, .int 0 0] } = h₂ at *
  refine newl (by simp) fun h₃ k₃ p₃ z₃ => ?_
  dsimp only at k₃ p₃ z₃ ⊢
  rw [zI] at p₃ z₃ ⊢
  refine wpAny_newFunctionEnv (by decide) (by intro y hy; simp at hy) (fun h₄ n₄ x₄ => ?_) rfl
  dsimp only at n₄ x₄ ⊢
  rw [z₃] at n₄ x₄ ⊢
  have hbs : hb.objs.size = s.heap.objs.size := B.same.1
  have hab : @LE.le Nat _ hb.objs.size L := F.above
  have hLI : @LT.lt Nat _ L I := hI ▸ F.ns.lt
  have hPL : @LT.lt Nat _ P L := Nat.lt_of_lt_of_le B.code.lt.2 hab
  have hDI : @LT.lt Nat _ D I := by obtain ⟨_, e, _⟩ := X.top; exact hI ▸ Heap.lt_size e
  have haI : ∀ b ∈ as, @LT.lt Nat _ b I := fun b hb => by obtain ⟨_, e⟩ := (X.each b hb).1; exact hI ▸ Heap.lt_size e
  have none_of : ∀ b : Nat, I ≤ b → s.heap.get? b = none := fun b hb => get_none (by omega)
  have off_as : ∀ b : Nat, I ≤ b → b ∉ as := fun b hb hm => by have := haI b hm; omega
  have e₄ : ∀ b o, b ≠ I + 2 → h₃.get? b = some o → h₄.get? b = some o := fun b o q e => x₄.extBut b o q (Heap.get?_push_of_some _ e)
  have X₄ : CS w mg mb s P L D m as v t { s' with heap := h₄, toks := s'.toks + ([] : List (Str × Value)).length } := X.keep (fun b o e => e₄ b o (ne1 (by have : @LT.lt Nat _ b I := hI ▸ Heap.lt_size e; omega)) (k₃ b o (kI b o e))) rfl rfl
  have i₄ : h₄.IsListIter I D 0 := by obtain ⟨o, e, r⟩ := iI; exact ⟨o, e₄ I o (ne1 (by omega)) (k₃ _ _ e), r⟩
  have p₄ : h₄.PlainList (I + 1) #[] := p₃.at fun o e => e₄ (I + 1) o (ne1 (by omega)) e
  have n₄' : h₄.Ns (I + 2) (fun x => ([] : List (Str × Value)).lookup x) := n₄
  have loop : codeAny (model prog w) A (.compLoop (.ListComp (.Call (.Name "join" q1) [.Name "words" q2] [] q3) [⟨.Name "words" px, .Name "lists" pl, [], 0⟩] cscope pos) 0 (.ref I) (.ref (I + 1)) (compEnvC cscope [] (I + 2) (envOf name scope L a cd)))
      (compPost (model prog w) A E (some (assign (.Name "lines" py) (envOf name scope L a cd))) (fun _ s' => Q .next s') (.ref (I + 1)) (I + 2)) { s' with heap := h₄, toks := s'.toks + ([] : List (Str × Value)).length } := by
    clear iI kI zI k₃ p₃ z₃ n₄ x₄ e₄
    refine codeAny_compLoop_list (fun n s₃ => ∃ i ys mc, CS w mg mb s P L D m as v t s₃ ∧ s₃.heap.IsListIter I D i ∧ s₃.heap.Ns (I + 2) mc ∧ s₃.heap.PlainList (I + 1) ys.toArray ∧ StrsAre ys ((as.take i).map fun a => joinS (t a)) ∧ i ≤ as.length ∧ n = as.length - i) ?_ as.length
      ⟨0, [], _, X₄, i₄, n₄', p₄, .nil, Nat.zero_le _, rfl⟩
    rintro n s₃ ⟨i, ys, mc, Y, it, nc, pa, sa, hi, rfl⟩
    cases hv : (as.map Value.ref).toArray[i]? with
    | none =>
      have hge : as.length ≤ i := by simpa using hv
      obtain rfl : i = as.length := Nat.le_antisymm hi hge
      refine wpAny_pyNext_list_end hh it Y.top hv fun h₅ e₅ => ?_
      have Y₅ : CS w mg mb s P L D m as v t { s₃ with heap := h₅ } := Y.other (a := I) e₅ (none_of _ (Nat.le_refl _)) (ne1 (by omega)) (ne1 (by omega)) (off_as _ (Nat.le_refl _)) rfl rfl
      have nc₅ : h₅.Ns (I + 2) mc := nc.extBut e₅ (ne1 (by omega))
      have pa₅ : h₅.PlainList (I + 1) ys.toArray := pa.extBut e₅ (ne1 (by omega))
      show wpAny _ A (assign (.Name "lines" py) (envOf name scope L a cd) (.ref (I + 1))) _ _ _
      refine wpAny_assign_Name (wpAny_storeName_local hk2 Y₅.ns (fun h₆ n₆ x₆ => ?_) hp)
      have x₆' : Heap.SameBut L h₅ h₆ := x₆
      refine ⟨mc, nc₅.sameBut x₆' (ne1 (by omega)), fun h₇ x₇ => ?_⟩
      have Y₆ := CS.store (s'' := { s₃ with heap := h₆, toks := s₃.toks + 1 }) Y₅ n₆ x₆ rfl rfl
      have Y₇ := CS.other (a := I + 2) (s'' := { s₃ with heap := h₇, toks := s₃.toks + 1 }) Y₆ x₇.extBut (none_of _ (by omega)) (ne1 (by omega)) (ne1 (by omega)) (off_as _ (by omega)) rfl rfl
      rw [List.take_length] at sa
      exact h _ (I + 1) ys Y₇ ((pa₅.extBut x₆'.extBut (ne1 (by omega))).extBut x₇.extBut (ne1 (by omega))) sa
    | some x =>
      have hv' : (as.map Value.ref)[i]? = some x := by simpa using hv
      have hlt : i < as.length := by have := (List.getElem?_eq_some_iff.mp hv').1; simpa using this
      have hx : x = .ref as[i] := by
        rw [List.getElem?_map, List.getElem?_eq_getElem hlt] at hv'
        simpa using hv'.symm
      subst hx
      have hmem : as[i] ∈ as := List.getElem_mem hlt
      refine wpAny_pyNext_list_item it Y.top hv fun h₅ it₅ x₅ => ?_
      have Y₅ : CS w mg mb s P L D m as v t { s₃ with heap := h₅ } := Y.other (a := I) x₅.extBut (none_of _ (Nat.le_refl _)) (ne1 (by omega)) (ne1 (by omega)) (off_as _ (Nat.le_refl _)) rfl rfl
      have nc₅ : h₅.Ns (I + 2) mc := nc.sameBut x₅ (ne1 (by omega))
      have pa₅ : h₅.PlainList (I + 1) ys.toArray := pa.extBut x₅.extBut (ne1 (by omega))
      refine wpAny_assign_Name (wpAny_storeName_local rfl nc₅ (fun h₆ n₆ x₆ => ?_) rfl)
      have x₆' : Heap.SameBut (I + 2) h₅ h₆ := x₆
      have Y₆ := CS.other (a := I + 2) (s'' := { s₃ with heap := h₆, toks := s₃.toks + 1 }) Y₅ x₆'.extBut (none_of _ (by omega)) (ne1 (by omega)) (ne1 (by omega)) (off_as _ (by omega)) rfl rfl
      have it₆ : h₆.IsListIter I D (i + 1) := it₅.extBut x₆'.extBut (ne1 (by omega))
      have pa₆ : h₆.PlainList (I + 1) ys.toArray := pa₅.extBut x₆'.extBut (ne1 (by omega))
      have n₆' : h₆.Ns (I + 2) _ := n₆
      obtain ⟨hb₆, ps₆, bm₆, ob₆, B₆, F₆, C₆, M₆⟩ := Y₆.base
      have C₆' : Cx w mg mb h₆ := C₆.keeps F₆.keep
      have W₆ := Y₆.each _ hmem
      refine Call_ (Calls.Name_function_global rfl rfl (Calls.loadGlobal_global C₆'.g (mg_of C₆'.X C₆'.g (nm_join w)) ?_) (by decide))
      refine callW rfl (spliced_more (wpAny_Name (wpAny_loadName_local rfl rfl n₆' (if_pos rfl) (spliced_none ⟨C₆'.X, ?_⟩))))
      refine join_call (P := P) (ps := ps₆) (bm := bm₆) (ob := ob₆) (vs := v as[i]) (ts := t as[i]) C₆' ⟨B₆.codeAt F₆, B₆.tabAt F₆⟩ (M₆.keeps F₆.keep) Y₆.bare hroom hh W₆.1.isList W₆.2.1 (Nat.le_trans W₆.2.2.1 (by decide)) (fun y hy => Nat.le_trans (W₆.2.2.2 y hy) (by decide)) fun tj s₇ more x₇ J₇ G₇ o₇ => ?_
      have x₇' : Heap.ExtBut P h₆ s₇.heap := x₇
      have Y₇ := Y₆.grow B₆ F₆ C₆ M₆ x₇ J₇ G₇ o₇
      have pa₇ : s₇.heap.PlainList (I + 1) ys.toArray := pa₆.extBut x₇' (ne1 (by omega))
      have it₇ : s₇.heap.IsListIter I D (i + 1) := it₆.extBut x₇' (ne1 (by omega))
      have nc₇ := n₆'.extBut x₇' (ne1 (by omega))
      have hys : ys.length ≤ 7 := by have := sa.length; simp at this; omega
      refine wpAny_list_append_plain pa₇ (fun h₈ p₈ x₈ => ?_) (by rw [sizeLine_eq]; simp; omega)
      refine ⟨as.length - (i + 1), by omega, i + 1, ys ++ [.str (joinS (t as[i])) tj], _, Y₇.other (a := I + 1) x₈.extBut (none_of _ (by omega)) (ne1 (by omega)) (ne1 (by omega)) (off_as _ (by omega)) rfl rfl, it₇.extBut x₈.extBut (ne1 (by omega)), nc₇.sameBut x₈ (ne1 (by omega)), by simpa using p₈, ?_, hlt, rfl⟩
      rw [List.take_succ_eq_append_getElem hlt, List.map_append]
      exact strs_snoc sa _ _
  exact codeAny_compStart_list loop (wpAny_pyIter_listiter i₄ loop)
end
end Mine

open PySem PySem.W PyProof.Rows
set_option maxRecDepth 100000
namespace Mine

theorem pick {as : List Addr} {R : Addr → List Value → List Str → Prop} (h : ∀ a ∈ as, ∃ vs ts, R a vs ts) : ∃ (v : Addr → List Value) (t : Addr → List Str), ∀ a ∈ as, R a (v a) (t a) := by
  classical
  exact ⟨fun a => if q : a ∈ as then (h a q).choose else [], fun a => if q : a ∈ as then (h a q).choose_spec.choose else [], fun a ha => by
    simp only [dif_pos ha]; exact (h a ha).choose_spec.choose_spec⟩
theorem ext_keep {L : Addr} {h h' h'' : Heap} (e : Heap.ExtBut L h h') (k : ∀ b o, h'.get? b = some o → h''.get? b = some o) : Heap.ExtBut L h h'' := fun b o q x => k b o (e b o q x)
theorem ext_same {L : Addr} {h h' h'' : Heap} (e : Heap.ExtBut L h h') (k : Heap.SameBut L h' h'') : Heap.ExtBut L h h'' := fun b o q x => k.extBut b o q (e b o q x)

theorem rng_size (i n : Nat) (h : i ≤ n) : Builtin.Range.rangeSize (i : Int) (n : Int) 1 = (n : Int) - (i : Int) := by
  unfold Builtin.Range.rangeSize
  split
  · split
    · omega
    · omega
  · omega
theorem rng_small (i n : Nat) (h : i ≤ n) (hn : n ≤ 7) : Builtin.Range.small (i : Int) (n : Int) 1 = true := by
  have hi : i ≤ 7 := Nat.le_trans h hn
  have key : ∀ n : Fin 8, ∀ i : Fin 8, i.val ≤ n.val → Builtin.Range.small (i.val : Int) (n.val : Int) 1 = true := by decide +kernel
  exact key ⟨n, by omega⟩ ⟨i, by omega⟩ h
theorem rng_step {h : Heap} {I : Addr} {i n : Nat} (x : IsRangeIter h I ((i : Int) + 1) ((n : Int) - (i : Int) - 1) 1) : IsRangeIter h I ((i + 1 : Nat) : Int) ((n : Int) - ((i + 1 : Nat) : Int)) 1 := by
  have e : (n : Int) - ((i + 1 : Nat) : Int) = (n : Int) - (i : Int) - 1 := by omega
  rw [e]
  exact x
theorem rng_ne_ns {h : Heap} {a L : Addr} {x y z : Int} {m : Str → Option Value} (hl : IsRangeIter h a x y z) (hn : h.Ns L m) : a ≠ L := by
  rintro rfl
  obtain ⟨o', es, ep, e', d', _⟩ := hn
  have hl' : h.get? a = some _ := hl
  rw [hl'] at e'; cases e'; cases d'

structure LS (w : World) (mg mb : Str → Option Value) (s : Shared) (P L D D2 : Addr) (as : List Addr) (v : Addr → List Value) (t : Addr → List Str) (ys : List Value) (m : Str → Option Value) (s' : Shared) : Prop where
  cs : CS w mg mb s P L D m as v t s'
  lns : s'.heap.PlainList D2 ys.toArray
  ml : m (Str.ofString "lists") = some (.ref D)
  mn : m (Str.ofString "lines") = some (.ref D2)
section
variable {w : World} {mg mb : Str → Option Value} {s s' s'' : Shared} {P L D D2 : Addr} {m m' : Str → Option Value} {as : List Addr} {v : Addr → List Value} {t : Addr → List Str} {ys : List Value}
theorem LS.keep (X : LS w mg mb s P L D D2 as v t ys m s') (hk : ∀ b o, s'.heap.get? b = some o → s''.heap.get? b = some o) (hg : s''.gens = s'.gens) (ho : s''.os = s'.os) : LS w mg mb s P L D D2 as v t ys m s'' :=
  ⟨X.cs.keep hk hg ho, X.lns.at (hk _), X.ml, X.mn⟩
theorem LS.other {a : Addr} (X : LS w mg mb s P L D D2 as v t ys m s') (hx : Heap.ExtBut a s'.heap s''.heap) (ha : s.heap.get? a = none) (hL : a ≠ L) (hD : a ≠ D) (hA : a ∉ as) (hD2 : a ≠ D2) (hg : s''.gens = s'.gens) (ho : s''.os = s'.os) : LS w mg mb s P L D D2 as v t ys m s'' :=
  ⟨X.cs.other hx ha hL hD hA hg ho, X.lns.extBut hx (Ne.symm hD2), X.ml, X.mn⟩
theorem LS.over {hb : Heap} {ps : Array Value} {bm : Addr} {ob : Obj} (X : LS w mg mb s P L D D2 as v t ys m s') (B : Based s.heap hb 42 P ps) (C : Cx w mg mb hb) (M : BMod hb mainGlobals mg bm ob) (F : Fr hb L s''.heap m') (e : Heap.ExtBut L s'.heap s''.heap)
    (hl : m' (Str.ofString "lists") = some (.ref D)) (hn : m' (Str.ofString "lines") = some (.ref D2)) (hg : s''.gens = s'.gens) (ho : s''.os = s'.os) : LS w mg mb s P L D D2 as v t ys m' s'' :=
  ⟨⟨⟨hb, ps, bm, ob, B, F, C, M⟩, X.cs.top.extBut e (list_ne_ns X.cs.top X.cs.ns), fun b hb => (X.cs.each b hb).at fun o q => e b o (list_ne_ns (X.cs.each b hb).1.isList X.cs.ns) q, hg ▸ X.cs.bare, ho.trans X.cs.os⟩,
    X.lns.extBut e (list_ne_ns X.lns.isList X.cs.ns), hl, hn⟩
end

section
variable {prog : Program} {w : World} {A : Around} {E : Value → Shared → Prop} {s : Shared}
theorem range_it1 {n : Nat} {t : Tok} {Q : Value → Shared → Prop} (hn : n ≤ 7)
    (h : ∀ (h' : Heap) (I : Nat) tk, (∀ b o, s.heap.get? b = some o → h'.get? b = some o) → s.heap.objs.size ≤ I → IsRangeIter h' I ((0 : Nat) : Int) ((n : Int) - ((0 : Nat) : Int)) 1 → Q (.ref I) { s with heap := h', toks := tk }) :
    wpAny (model prog w) A (call (.type "range") [.int (n : Nat) t]) (fun x s₁ => wpAny (model prog w) A (pyIter x) Q E s₁) E s := by
  refine call_range_1 (wpAny_pyIter_range (a := 0) (b := (n : Nat)) (c := 1) (Heap.get?_push_size _ rfl) (rng_small 0 n (Nat.zero_le _) hn) ?_)
  refine h _ _ _ (fun b o e => Heap.get?_push_of_some _ (Heap.get?_push_of_some _ e)) ?_ ?_
  · simp only [Heap.size_push]; omega
  · rw [← rng_size 0 n (Nat.zero_le _)]
    exact Heap.get?_push_size _ rfl
theorem range_it2 {i n : Nat} {t u : Tok} {Q : Value → Shared → Prop} (hi : i ≤ n) (hn : n ≤ 7)
    (h : ∀ (h' : Heap) (I : Nat) tk, (∀ b o, s.heap.get? b = some o → h'.get? b = some o) → s.heap.objs.size ≤ I → IsRangeIter h' I (i : Int) ((n : Int) - (i : Int)) 1 → Q (.ref I) { s with heap := h', toks := tk }) :
    wpAny (model prog w) A (call (.type "range") [.int (i : Nat) t, .int (n : Nat) u]) (fun x s₁ => wpAny (model prog w) A (pyIter x) Q E s₁) E s := by
  refine call_range_2 (wpAny_pyIter_range (a := (i : Nat)) (b := (n : Nat)) (c := 1) (Heap.get?_push_size _ rfl) (rng_small i n hi hn) ?_)
  refine h _ _ _ (fun b o e => Heap.get?_push_of_some _ (Heap.get?_push_of_some _ e)) ?_ ?_
  · simp only [Heap.size_push]; omega
  · rw [← rng_size i n hi]
    exact Heap.get?_push_size _ rfl
end

theorem order_three (A B : List Str) : three (joinS A).cps.toList (joinS B).cps.toList = orderS A B := by
  rw [joinS_cps, joinS_cps, plain_law]; rfl
end Mine

open PySem PySem.W PyProof.Rows
set_option maxRecDepth 100000
namespace Mine
section
variable {prog : Program} {w : World} {A : Around} {E : Value → Shared → Prop} {s : Shared} {mg mb : Str → Option Value}
set_option maxHeartbeats 2000000 in
theorem law_call {l P bm : Addr} {ob : Obj} {ps : Array Value} {vs : List Value} {ns : List Int} {Q : Value → Shared → Prop} (C : Cx w mg mb s.heap) (B : Based s.heap s.heap 42 P ps) (M : BMod s.heap mainGlobals mg bm ob) (G : AllBare s.gens)
    (hroom : A.depth + 4 < recursionLimit) (hh : A.handled = none) (hu : A.units + 12 < cLine) (hl : s.heap.IsList l vs.toArray) (hi : IntsAre vs ns) (hn : ns.length ≤ 63)
    (h : ∀ s', OldK s.heap s'.heap → AllBare s'.gens → s'.os = s.os → Q (.bool true) s') : wpAny (model prog w) A (call (.ref 89) [.ref l]) Q E s := by
  refine call_def (binds := [(Str.ofString "script", .ref l)]) C rfl rfl (by omega) rfl rfl fun h₁ F => ?_
  have C₁ : Cx w mg mb h₁ := C.keeps F.keep
  refine wpAny_execs_cons (wpAny_Assign_Name (Call_ (glob C F (nm_lists w) (callW rfl (spliced_more (ld F rfl (spliced_none ⟨C₁.X, ?_⟩)))))))
  refine lists_call C₁ (by show A.depth + 1 < recursionLimit; omega) hh (by show A.units + 3 + 6 < cLine; omega) (F.lst hl) hi hn fun s₂ D as K₂ top₂ len each₂ => ?_
  obtain ⟨h₂, tk₂, rfl, k₂⟩ := K₂
  obtain ⟨v, t, hw⟩ := pick each₂
  dsimp only at k₂ top₂ hw
  refine stK (F.keeps k₂) fun h₃ F₃ x₃ n₃ => ?_
  have X₃ : ∃ m₃, CS w mg mb s P s.heap.objs.size D m₃ as v t { s with heap := h₃, toks := tk₂ + 1 } ∧ m₃ (Str.ofString "lists") = some (.ref D) :=
    ⟨_, ⟨⟨s.heap, ps, bm, ob, B, F₃, C, M⟩, top₂.extBut x₃.extBut (list_ne_ns top₂ n₃), fun b hb => (hw b hb).at fun o e => x₃.extBut b o (list_ne_ns (hw b hb).1.isList n₃) e, G, rfl⟩, rfl⟩
  clear F₃ x₃ n₃ hw top₂ each₂ F C₁ k₂
  obtain ⟨m₃, X₃, ml₃⟩ := X₃
  refine wpAny_execs_cons (comp_lines X₃ ml₃ len.2 (by show A.depth + 1 + 2 < recursionLimit; omega) hh (by rfl) rfl rfl rfl rfl fun s₄ D2 ys X₄ p₄ sa => ?_)
  have X₄ : ∃ m₄, LS w mg mb s P s.heap.objs.size D D2 as v t ys m₄ s₄ := ⟨_, X₄, p₄, (if_neg (by decide)).trans ml₃, if_pos rfl⟩
  clear X₃ ml₃ p₄
  obtain ⟨m₄, X₄⟩ := X₄
  obtain ⟨hb, C₄, F₄, _⟩ := X₄.cs.fr
  have hlen := len.2
  refine wpAny_execs_cons (wpAny_For (Call_ (blt C₄ F₄ (nm_range w) boot_range (PyProof.Rows.callWith_type1 (spliced_more (Call_ (blt C₄ F₄ (nm_len w) boot_len (PyProof.Rows.callWith_builtin1 (spliced_more (ld F₄ X₄.ml (spliced_none ?_))))))))))) 
  refine len_list X₄.cs.top (by simp; omega) (spliced_none ?_)
  rw [show ((as.map Value.ref).toArray.size : Int) = (as.length : Nat) from by simp]
  have hLr : @LT.lt Nat _ s.heap.objs.size s₄.heap.objs.size := F₄.ns.lt
  have hDr : @LT.lt Nat _ D s₄.heap.objs.size := by obtain ⟨_, e, _⟩ := X₄.cs.top; exact Heap.lt_size e
  have hD2r : @LT.lt Nat _ D2 s₄.heap.objs.size := by obtain ⟨_, e⟩ := X₄.lns; exact Heap.lt_size e
  have haR : ∀ b ∈ as, @LT.lt Nat _ b s₄.heap.objs.size := fun b hb => by obtain ⟨_, e⟩ := (X₄.cs.each b hb).1; exact Heap.lt_size e
  refine range_it1 hlen fun h₅ I₁ tk₅ k₅ hI₁ it₅ => ?_
  have hI₁' : s₄.heap.objs.size ≤ I₁ := hI₁
  have X₅ := X₄.keep (s'' := { s₄ with heap := h₅, toks := tk₅ }) k₅ rfl rfl
  have none_of : ∀ b : Nat, s₄.heap.objs.size ≤ b → s.heap.get? b = none := fun b hb => get_none (by omega)
  have off_as : ∀ b : Nat, s₄.heap.objs.size ≤ b → b ∉ as := fun b hb hm => by have := haR b hm; omega
  generalize s₄.heap.objs.size = z₄ at *
  clear F₄ C₄ k₅ hI₁ X₄
  refine codeAny_forLoop (fun n s' => ∃ i m', LS w mg mb s P s.heap.objs.size D D2 as v t ys m' s' ∧ IsRangeIter s'.heap I₁ ((i : Nat) : Int) ((as.length : Int) - ((i : Nat) : Int)) 1 ∧ i ≤ as.length ∧ n = as.length - i) ?_ as.length
    ⟨0, m₄, X₅, it₅, Nat.zero_le _, rfl⟩
  rintro n s' ⟨i, m', X, it, hi', rfl⟩
  by_cases hlt : i < as.length
  · refine wpAny_pyNext_range_item it (by omega) fun h₆ it₆ x₆ => ?_
    have it₆ := rng_step it₆
    have X₆ := X.other (a := I₁) (s'' := { s' with heap := h₆, toks := s'.toks + 1 }) x₆.extBut (none_of _ hI₁') (ne1 (by omega)) (ne1 (by omega)) (off_as _ hI₁') (ne1 (by omega)) rfl rfl
    obtain ⟨hb, ps₆, bm₆, ob₆, B₆, F₆, C₆, M₆⟩ := X₆.cs.base
    refine wpAny_assign_Name (stK F₆ fun h₇ F₇ x₇ n₇ => ?_)
    have X₇ := X₆.over (s'' := { s' with heap := h₇, toks := s'.toks + 1 + 1 }) B₆ C₆ M₆ F₇ x₇.extBut ((if_neg (by decide)).trans X.ml) ((if_neg (by decide)).trans X.mn) rfl rfl
    have it₇ : IsRangeIter h₇ I₁ ((i + 1 : Nat) : Int) ((as.length : Int) - ((i + 1 : Nat) : Int)) 1 := x₇.extBut _ _ (ne1 (by omega)) it₆
    have hmm : ∃ m₇, LS w mg mb s P s.heap.objs.size D D2 as v t ys m₇ { s' with heap := h₇, toks := s'.toks + 1 + 1 } ∧ m₇ (Str.ofString "i") = some (.int ((i : Nat) : Int) s'.toks) := ⟨_, X₇, if_pos rfl⟩
    clear X₇ F₇ n₇ X₆ F₆ it₆ x₆
    obtain ⟨m₇, X₇, hmi⟩ := hmm
    obtain ⟨hb, ps₇, bm₇, ob₇, B₇, F₇, C₇, M₇⟩ := X₇.cs.base
    refine wpAny_execs_cons (wpAny_For (Call_ (blt C₇ F₇ (nm_range w) boot_range (PyProof.Rows.callWith_type1 (spliced_more (ld F₇ hmi (spliced_more (Call_ (blt C₇ F₇ (nm_len w) boot_len (PyProof.Rows.callWith_builtin1 (spliced_more (ld F₇ X₇.ml (spliced_none ?_)))))))))))))
    refine len_list X₇.cs.top (by simp; omega) (spliced_none ?_)
    rw [show ((as.map Value.ref).toArray.size : Int) = (as.length : Nat) from by simp]
    have hI₁z : I₁ < h₇.objs.size := Heap.lt_size it₇
    have hzL : @LT.lt Nat _ s.heap.objs.size h₇.objs.size := F₇.ns.lt
    have hDz : @LT.lt Nat _ D h₇.objs.size := by omega
    refine range_it2 hi' hlen fun h₈ I₂ tk₈ k₈ hI₂ it₈ => ?_
    have hI₂' : h₇.objs.size ≤ I₂ := hI₂
    have X₈ := X₇.keep (s'' := { s' with heap := h₈, toks := tk₈ }) k₈ rfl rfl
    have it₈₁ : IsRangeIter h₈ I₁ ((i + 1 : Nat) : Int) ((as.length : Int) - ((i + 1 : Nat) : Int)) 1 := k₈ _ _ it₇
    clear F₇ C₇ M₇ B₇ k₈ hI₂ X₇ it₇
    refine codeAny_forLoop (fun n s' => ∃ j m' ti, LS w mg mb s P s.heap.objs.size D D2 as v t ys m' s' ∧ m' (Str.ofString "i") = some (.int ((i : Nat) : Int) ti) ∧ IsRangeIter s'.heap I₂ ((j : Nat) : Int) ((as.length : Int) - ((j : Nat) : Int)) 1 ∧ IsRangeIter s'.heap I₁ ((i + 1 : Nat) : Int) ((as.length : Int) - ((i + 1 : Nat) : Int)) 1 ∧ j ≤ as.length ∧ n = as.length - j) ?_ (as.length - i)
      ⟨i, m₇, _, X₈, hmi, it₈, it₈₁, hi', rfl⟩
    clear X₈ it₈ it₈₁ hmi X it
    rintro n s'' ⟨j, m'', ti, X, hmi, it, it₁, hj', rfl⟩
    by_cases hltj : j < as.length
    · refine wpAny_pyNext_range_item it (by omega) fun h₉ it₉ x₉ => ?_
      have it₉ := rng_step it₉
      have X₉ := X.other (a := I₂) (s'' := { s'' with heap := h₉, toks := s''.toks + 1 }) x₉.extBut (none_of _ (by omega)) (ne1 (by omega)) (ne1 (by omega)) (off_as _ (by omega)) (ne1 (by omega)) rfl rfl
      have it₁₉ : IsRangeIter h₉ I₁ ((i + 1 : Nat) : Int) ((as.length : Int) - ((i + 1 : Nat) : Int)) 1 := x₉.extBut _ _ (ne1 (by omega)) it₁
      obtain ⟨hb, ps₉, bm₉, ob₉, B₉, F₉, C₉, M₉⟩ := X₉.cs.base
      refine wpAny_assign_Name (stK F₉ fun h₁₀ F₁₀ x₁₀ _ => ?_)
      have X₁₀ := X₉.over (s'' := { s'' with heap := h₁₀, toks := s''.toks + 1 + 1 }) B₉ C₉ M₉ F₁₀ x₁₀.extBut ((if_neg (by decide)).trans X.ml) ((if_neg (by decide)).trans X.mn) rfl rfl
      have it₁₀ : IsRangeIter h₁₀ I₂ ((j + 1 : Nat) : Int) ((as.length : Int) - ((j + 1 : Nat) : Int)) 1 := x₁₀.extBut _ _ (ne1 (by omega)) it₉
      have it₁₁₀ : IsRangeIter h₁₀ I₁ ((i + 1 : Nat) : Int) ((as.length : Int) - ((i + 1 : Nat) : Int)) 1 := x₁₀.extBut _ _ (ne1 (by omega)) it₁₉
      have hmm : ∃ m₁ tj, Fr hb s.heap.objs.size h₁₀ m₁ ∧ LS w mg mb s P s.heap.objs.size D D2 as v t ys m₁ { s'' with heap := h₁₀, toks := s''.toks + 1 + 1 } ∧ m₁ (Str.ofString "i") = some (.int ((i : Nat) : Int) ti) ∧ m₁ (Str.ofString "j") = some (.int ((j : Nat) : Int) tj) := ⟨_, _, F₁₀, X₁₀, (if_neg (by decide)).trans hmi, if_pos rfl⟩
      clear X₁₀ F₁₀ X₉ F₉ it₉ x₉ it it₁ it₁₉ X hmi x₁₀
      obtain ⟨m₁, tj, F, X, hmi, hmj⟩ := hmm
      have hXY := order_three (t as[i]) (t as[j])
      have hYX := order_three (t as[j]) (t as[i])
      have ga : ∀ k (hk : k < as.length), (as.map Value.ref)[((k : Nat) : Int).toNat]? = some (.ref as[k]) := fun k hk => by simp [hk]
      have gl : ∀ k (hk : k < as.length), ∃ tl, ys[((k : Nat) : Int).toNat]? = some (.str (joinS (t as[k])) tl) := fun k hk => by
        obtain ⟨tl, e⟩ := sa.get k (joinS (t as[k])) (by simp [hk])
        exact ⟨tl, by simpa using e⟩
      obtain ⟨tli, gli⟩ := gl i hlt
      obtain ⟨tlj, glj⟩ := gl j hltj
      have Wi := X.cs.each _ (List.getElem_mem hlt)
      have Wj := X.cs.each _ (List.getElem_mem hltj)
      have C₁₀ : Cx w mg mb h₁₀ := C₉.keeps F.keep
      refine wpAny_execs_cons (wpAny_Assign_Name (Call_ (glob C₉ F (nm_order w) (callW rfl (spliced_more (Subscript_ (ld F X.ml (ld F hmi (item_listL X.cs.top (by omega) (by omega) (ga i hlt) (spliced_more (Subscript_ (ld F X.ml (ld F hmj (item_listL X.cs.top (by omega) (by omega) (ga j hltj) (spliced_none ⟨C₁₀.X, ?_⟩)))))))))))))))
      refine order_call C₁₀ (by show A.depth + 1 + 1 < recursionLimit; omega) hh (by show A.units + 3 + 6 < cLine; omega) Wi.1.isList Wj.1.isList Wi.2.1 Wj.2.1 (Nat.le_trans Wi.2.2.1 (by decide)) (Nat.le_trans Wj.2.2.1 (by decide)) (fun y hy => Nat.le_trans (Wi.2.2.2 y hy) (by decide)) (fun y hy => Nat.le_trans (Wj.2.2.2 y hy) (by decide)) fun t₁₁ s₁₁ K₁₁ => ?_
      obtain ⟨h₁₁, tk₁₁, rfl, k₁₁⟩ := K₁₁
      refine stK (F.keeps k₁₁) fun h₁₂ F₁₂ x₁₂ n₁₂ => ?_
      have e₁₂ : Heap.ExtBut s.heap.objs.size h₁₀ h₁₂ := fun b o q e => x₁₂.extBut b o q (k₁₁ b o e)
      have hmm : ∃ m₂, Fr hb s.heap.objs.size h₁₂ m₂ ∧ m₂ (Str.ofString "lists") = some (.ref D) ∧ m₂ (Str.ofString "lines") = some (.ref D2) ∧ m₂ (Str.ofString "i") = some (.int ((i : Nat) : Int) ti) ∧ m₂ (Str.ofString "j") = some (.int ((j : Nat) : Int) tj) ∧ m₂ (Str.ofString "due") = some (.int (orderS (t as[i]) (t as[j])) t₁₁) :=
        ⟨_, F₁₂, (if_neg (by decide)).trans X.ml, (if_neg (by decide)).trans X.mn, (if_neg (by decide)).trans hmi, (if_neg (by decide)).trans hmj, if_pos rfl⟩
      clear F₁₂ x₁₂ n₁₂ k₁₁ hmi hmj
      obtain ⟨m₂, F₂, hml, hmn, hmi, hmj, hmd⟩ := hmm
      have hL2 : D2 ≠ s.heap.objs.size := list_ne_ns X.lns.isList X.cs.ns
      have C₁₂ : Cx w mg mb h₁₂ := C₉.keeps F₂.keep
      have l₁₂ : h₁₂.IsList D2 ys.toArray := (X.lns.extBut e₁₂ hL2).isList
      refine wpAny_execs_cons (wpAny_Assign_Name (Call_ (glob C₉ F₂ (nm_cmp w) (callW rfl (spliced_more (Subscript_ (ld F₂ hmn (ld F₂ hmi (item_listL l₁₂ (by omega) (by omega) gli (spliced_more (Subscript_ (ld F₂ hmn (ld F₂ hmj (item_listL l₁₂ (by omega) (by omega) glj (spliced_none ⟨C₁₂.X, ?_⟩)))))))))))))))
      refine cmp_call C₁₂ (by show A.depth + 1 < recursionLimit; omega) fun t₁₃ s₁₃ K₁₃ => ?_
      obtain ⟨h₁₃, tk₁₃, rfl, k₁₃⟩ := K₁₃
      rw [hXY]
      refine stK (F₂.keeps k₁₃) fun h₁₄ F₁₄ x₁₄ n₁₄ => ?_
      have e₁₄ : Heap.ExtBut s.heap.objs.size h₁₀ h₁₄ := fun b o q e => x₁₄.extBut b o q (k₁₃ b o (e₁₂ b o q e))
      have hmm : ∃ m₃, Fr hb s.heap.objs.size h₁₄ m₃ ∧ m₃ (Str.ofString "lists") = some (.ref D) ∧ m₃ (Str.ofString "lines") = some (.ref D2) ∧ m₃ (Str.ofString "i") = some (.int ((i : Nat) : Int) ti) ∧ m₃ (Str.ofString "j") = some (.int ((j : Nat) : Int) tj) ∧ m₃ (Str.ofString "due") = some (.int (orderS (t as[i]) (t as[j])) t₁₁) ∧ m₃ (Str.ofString "there") = some (.int (orderS (t as[i]) (t as[j])) t₁₃) :=
        ⟨_, F₁₄, (if_neg (by decide)).trans hml, (if_neg (by decide)).trans hmn, (if_neg (by decide)).trans hmi, (if_neg (by decide)).trans hmj, (if_neg (by decide)).trans hmd, if_pos rfl⟩
      clear F₁₄ x₁₄ n₁₄ k₁₃ hmi hmj hml hmn hmd l₁₂ F₂ C₁₂
      obtain ⟨m₃, F₃, hml, hmn, hmi, hmj, hmd, hmt⟩ := hmm
      have C₁₄ : Cx w mg mb h₁₄ := C₉.keeps F₃.keep
      have l₁₄ : h₁₄.IsList D2 ys.toArray := (X.lns.extBut e₁₄ hL2).isList
      refine wpAny_execs_cons (wpAny_Assign_Name (Call_ (glob C₉ F₃ (nm_cmp w) (callW rfl (spliced_more (Subscript_ (ld F₃ hmn (ld F₃ hmj (item_listL l₁₄ (by omega) (by omega) glj (spliced_more (Subscript_ (ld F₃ hmn (ld F₃ hmi (item_listL l₁₄ (by omega) (by omega) gli (spliced_none ⟨C₁₄.X, ?_⟩)))))))))))))))
      refine cmp_call C₁₄ (by show A.depth + 1 < recursionLimit; omega) fun t₁₅ s₁₅ K₁₅ => ?_
      obtain ⟨h₁₅, tk₁₅, rfl, k₁₅⟩ := K₁₅
      rw [three_neg, hXY]
      refine stK (F₃.keeps k₁₅) fun h₁₆ F₁₆ x₁₆ n₁₆ => ?_
      have e₁₆ : Heap.ExtBut s.heap.objs.size h₁₀ h₁₆ := fun b o q e => x₁₆.extBut b o q (k₁₅ b o (e₁₄ b o q e))
      have hmm : ∃ m₄, Fr hb s.heap.objs.size h₁₆ m₄ ∧ m₄ (Str.ofString "lists") = some (.ref D) ∧ m₄ (Str.ofString "lines") = some (.ref D2) ∧ m₄ (Str.ofString "i") = some (.int ((i : Nat) : Int) ti) ∧ m₄ (Str.ofString "due") = some (.int (orderS (t as[i]) (t as[j])) t₁₁) ∧ m₄ (Str.ofString "there") = some (.int (orderS (t as[i]) (t as[j])) t₁₃) ∧ m₄ (Str.ofString "back") = some (.int (-orderS (t as[i]) (t as[j])) t₁₅) :=
        ⟨_, F₁₆, (if_neg (by decide)).trans hml, (if_neg (by decide)).trans hmn, (if_neg (by decide)).trans hmi, (if_neg (by decide)).trans hmd, (if_neg (by decide)).trans hmt, if_pos rfl⟩
      clear F₁₆ x₁₆ n₁₆ k₁₅ hmi hmj hml hmn hmd hmt l₁₄ F₃ C₁₄ e₁₂ e₁₄
      obtain ⟨m₅, F₅, hml, hmn, hmi, hmd, hmt, hmb⟩ := hmm
      generalize orderS (t as[i]) (t as[j]) = od at *
      refine wpAny_execs_cons (wpAny_If (isTrue_or (isTrue_plain (Call_ (blt C₉ F₅ (nm_isinstance w) boot_isinstance (PyProof.Rows.callWith_builtin1 (spliced_more (ld F₅ hmt (spliced_more (blt C₉ F₅ (nm_bool w) PyProof.Rows.boot_bool (spliced_none (IsiPair.int_bool (wpAny_truthy_bool ?_)))))))))))))
      refine ifF rfl ?_
      refine isTrue_or (isTrue_plain (Call_ (blt C₉ F₅ (nm_isinstance w) boot_isinstance (PyProof.Rows.callWith_builtin1 (spliced_more (ld F₅ hmb (spliced_more (blt C₉ F₅ (nm_bool w) PyProof.Rows.boot_bool (spliced_none (IsiPair.int_bool (wpAny_truthy_bool ?_)))))))))))
      refine ifF rfl (isTrue_or_nil (ifF rfl (wpAny_execs_nil ?_)))
      refine wpAny_execs_cons (wpAny_If (isTrue_or (wpAny_isTrue_Compare1 (ld F₅ hmt (ld F₅ hmd (PyProof.Rows.ne_int (wpAny_truthy_bool ?_)))))))
      refine ifF (by simp) ?_
      refine isTrue_or (wpAny_isTrue_Compare1 (ld F₅ hmb (UnaryOp_ (ld F₅ hmd (PyProof.Rows.neg_int (PyProof.Rows.ne_int (wpAny_truthy_bool ?_)))))))
      refine ifF (by simp) (isTrue_or_nil (ifF rfl (wpAny_execs_nil (wpAny_execs_nil ?_))))
      have hI₁L : I₁ ≠ s.heap.objs.size := ne1 (by omega)
      have hI₂L : I₂ ≠ s.heap.objs.size := ne1 (by omega)
      exact ⟨as.length - (j + 1), by omega, j + 1, m₅, ti, X.over B₉ C₉ M₉ F₅ e₁₆ hml hmn rfl rfl, hmi, e₁₆ _ _ hI₂L it₁₀, e₁₆ _ _ hI₁L it₁₁₀, hltj, rfl⟩
    · obtain rfl : j = as.length := Nat.le_antisymm hj' (Nat.not_lt.mp hltj)
      refine wpAny_pyNext_range_end hh it (by omega) fun h₉ e₉ => wpAny_execs_nil (wpAny_execs_nil ?_)
      have X₉ := X.other (a := I₂) (s'' := { s'' with heap := h₉ }) e₉ (none_of _ (by omega)) (ne1 (by omega)) (ne1 (by omega)) (off_as _ (by omega)) (ne1 (by omega)) rfl rfl
      exact ⟨as.length - (i + 1), by omega, i + 1, m'', X₉, e₉ _ _ (ne1 (by omega)) it₁, hlt, rfl⟩
  · obtain rfl : i = as.length := Nat.le_antisymm hi' (Nat.not_lt.mp hlt)
    refine wpAny_pyNext_range_end hh it (by omega) fun h₆ e₆ => wpAny_execs_nil ?_
    have X₆ := X.other (a := I₁) (s'' := { s' with heap := h₆ }) e₆ (none_of _ hI₁') (ne1 (by omega)) (ne1 (by omega)) (off_as _ hI₁') (ne1 (by omega)) rfl rfl
    refine wpAny_execs_cons (wpAny_Return_some (wpAny_Constant_bool ?_))
    obtain ⟨_, _, _, ok⟩ := X₆.cs.fr
    exact h _ ok X₆.cs.bare X₆.cs.os
end
end Mine

open PySem PySem.W PyProof.Rows
set_option maxRecDepth 100000
namespace Mine
theorem nm_law (w : World) : nsIn (KH w) mainGlobals "law" = some (some (.ref 89)) := by kernel_rfl
end Mine
set_option maxHeartbeats 8000000 in
theorem PySem.Challenge.cw_mj0031_01_holds : PySem.Challenge.rw_mj0031_01.Holds := by
  refine Mine.hd ?_
  intro w s₀ s₁ mg mb G Y fa o pm cd doc dV kV ho hdat hcd hD hmg hg args vals as hpre hlay hrd hwl hlo
  have KX := kIn_of Y
  have T := G.T
  obtain ⟨bm, ob, M⟩ := bmod_of_top T
  have C : Mine.Cx w mg mb s₁.heap := ⟨KX, T.g, T.b, T.builtins, T.nolimit⟩
  have h89 : mg (Str.ofString "law") = some (.ref 89) := mg_of KX T.g (Mine.nm_law w)
  have hmg' : mg (Str.ofString "law") = some (.ref fa) := hmg
  rw [h89] at hmg'
  obtain rfl : 89 = fa := by injection hmg' with e; injection e
  have hj : mg (Str.ofString "join") = some (.ref 43) := mg_of KX T.g (Mine.nm_join w)
  obtain ⟨c, P, hc, B⟩ := based_of_top T (name := Str.ofString "join") rfl hj (KX 43 _ rfl) rfl
  obtain rfl : 42 = c := by injection hc
  clear hmg hmg' h89 hj hc hcd hD ho hdat
  wrow_args hpre hlay hrd hwl hlo
  rename Heap.IsList _ _ _ => hL
  rename IntsAre _ _ => hI
  rename ¬ _ < _ => hlen
  show wpAny _ callerA (call (.ref 89) [_]) _ _ s₁
  refine Mine.law_call C B M (.of_eq hg) (by decide) rfl (by decide) hL hI (by omega) fun s' ok gb os => ?_
  refine ⟨.inl ⟨_, _, _, rfl, ?_, .bool true, ?_, ?_⟩, ok, os, gb⟩
  · intro cls; rfl
  · wrow_post
  · intro _; exact ⟨.nil, fun a ha => absurd ha (by simp)⟩

/-
  PLAIN: lists that are kept in order by a comparison: where a key stands, putting, taking out, looking up; what this means of a list that is cut into parts. No program in sight.
  PLAIN: the four orders of numbers and of texts as functions, and that each is an order.
  PLAIN: pairs of a key and a value as the statements have them, the four orders of them, what a script over versions answers, what the moves of an iterator answer. No program in sight.
  PLAIN: how many keys a script puts or takes out; what a step of a script over sets makes of pairs.
-/
import Derived.Lib.Bytealg
import Derived.Lib.ItoaNum
set_option linter.all false
set_option linter.unusedVariables false
set_option linter.unusedSimpArgs false
set_option linter.unusedSectionVars false
namespace Go.Proofs.YtfejflhgaphilaaGreatDoor
namespace Lst
variable {α : Type}

/-- A comparison that orders (equal things may differ). -/
structure Ord3 (c : α → α → Int) : Prop where
  range : ∀ a b, c a b = -1 ∨ c a b = 0 ∨ c a b = 1
  refl : ∀ a, c a a = 0
  swap : ∀ a b, c a b = -1 ↔ c b a = 1
  symm : ∀ a b, c a b = 0 → c b a = 0
  trans : ∀ a b d, c a b = -1 → c b d = -1 → c a d = -1
  left : ∀ a b d, c a b = 0 → c a d = c b d
  right : ∀ a b d, c b d = 0 → c a b = c a d

/-- How many at the list's head lie below. -/
def pos (f : α → Int) : List α → Nat
  | [] => 0
  | p :: t => if f p = -1 then pos f t + 1 else 0

theorem pos_le (f : α → Int) : ∀ l : List α, pos f l ≤ l.length
  | [] => Nat.le_refl _
  | p :: t => by
    unfold pos
    have := pos_le f t
    split <;> simp <;> omega

theorem pos_lt (f : α → Int) : ∀ (l : List α) (i : Nat) (p : α), i < pos f l → l[i]? = some p → f p = -1
  | [], _, _, h, _ => by simp [pos] at h
  | x :: t, i, p, h, hp => by
    unfold pos at h
    split at h
    · cases i with
      | zero => simp at hp; subst hp; assumption
      | succ i => exact pos_lt f t i p (by omega) (by simpa using hp)
    · omega

theorem pos_at (f : α → Int) : ∀ (l : List α) (p : α), l[pos f l]? = some p → f p ≠ -1
  | [], _, h => by simp at h
  | x :: t, p, h => by
    unfold pos at h
    split at h
    · exact pos_at f t p (by simpa using h)
    · simp at h; subst h; assumption

theorem pos_eq (f : α → Int) : ∀ (l : List α) (r : Nat), r ≤ l.length → (∀ i p, i < r → l[i]? = some p → f p = -1) → (∀ p, l[r]? = some p → f p ≠ -1) → pos f l = r
  | [], r, hr, _, _ => by simp at hr; subst hr; rfl
  | x :: t, r, hr, h1, h2 => by
    cases r with
    | zero => simp [pos, h2 x (by simp)]
    | succ r =>
      have hx := h1 0 x (by omega) (by simp)
      simp only [pos, hx, if_true]
      rw [pos_eq f t r (by simpa using hr) (fun i p hi hp => h1 (i + 1) p (by omega) (by simpa using hp)) (fun p hp => h2 p (by simpa using hp))]

def has (f : α → Int) (l : List α) : Bool :=
  match l[pos f l]? with
  | some p => decide (f p = 0)
  | none => false

def ins (f : α → Int) (x : α) (l : List α) : List α := l.take (pos f l) ++ x :: l.drop (pos f l + if has f l then 1 else 0)
def del (f : α → Int) (l : List α) : List α := if has f l then l.take (pos f l) ++ l.drop (pos f l + 1) else l
def look (f : α → Int) (l : List α) : Option α := if has f l then l[pos f l]? else none

theorem has_true {f : α → Int} {l : List α} (h : has f l = true) : pos f l < l.length ∧ ∃ p, l[pos f l]? = some p ∧ f p = 0 := by
  unfold has at h
  split at h
  · rename_i p hp
    exact ⟨(List.getElem?_eq_some_iff.1 hp).1, p, hp, by simpa using h⟩
  · cases h

theorem has_of {f : α → Int} {l : List α} {p : α} (hp : l[pos f l]? = some p) : has f l = decide (f p = 0) := by
  unfold has; rw [hp]

theorem has_end {f : α → Int} {l : List α} (h : pos f l = l.length) : has f l = false := by
  unfold has; rw [List.getElem?_eq_none (by omega)]

theorem ins_new {f : α → Int} {x : α} {l : List α} (h : has f l = false) : ins f x l = l.take (pos f l) ++ x :: l.drop (pos f l) := by
  unfold ins; simp [h]
theorem ins_old {f : α → Int} {x : α} {l : List α} (h : has f l = true) : ins f x l = l.take (pos f l) ++ x :: l.drop (pos f l + 1) := by
  unfold ins; simp [h]
theorem ins_set {f : α → Int} {x : α} {l : List α} (h : has f l = true) : ins f x l = l.set (pos f l) x := by
  rw [ins_old h, List.set_eq_take_append_cons_drop, if_pos (has_true h).1]

theorem length_ins (f : α → Int) (x : α) (l : List α) : (ins f x l).length = l.length + if has f l then 0 else 1 := by
  have hp := pos_le f l
  cases h : has f l with
  | true => rw [ins_set h]; simp
  | false => rw [ins_new h]; simp; omega

theorem length_del (f : α → Int) (l : List α) : (del f l).length = l.length - if has f l then 1 else 0 := by
  have hp := pos_le f l
  cases h : has f l with
  | true => have := (has_true h).1; simp [del, h]; omega
  | false => simp [del, h]

theorem del_none {f : α → Int} {l : List α} (h : has f l = false) : del f l = l := by simp [del, h]

/-! ### A list that is cut into three -/

section mid
variable {f : α → Int} {A li B : List α} (hA : ∀ a ∈ A, f a = -1) (hB : ∀ b ∈ B, f b = 1)
include hA hB

theorem pos_mid : pos f (A ++ li ++ B) = A.length + pos f li := by
  have hp := pos_le f li
  refine pos_eq f _ _ (by simp; omega) (fun i p hi hx => ?_) (fun p hx => ?_)
  · by_cases h1 : i < A.length
    · rw [List.append_assoc, List.getElem?_append_left h1] at hx
      exact hA p (List.mem_of_getElem? hx)
    · rw [List.append_assoc, List.getElem?_append_right (by omega), List.getElem?_append_left (by omega)] at hx
      exact pos_lt f li _ p (by omega) hx
  · rw [List.append_assoc, List.getElem?_append_right (by omega), Nat.add_sub_cancel_left] at hx
    by_cases h1 : pos f li < li.length
    · rw [List.getElem?_append_left h1] at hx
      exact pos_at f li p hx
    · rw [List.getElem?_append_right (by omega)] at hx
      have := hB p (List.mem_of_getElem? hx)
      omega

theorem has_mid : has f (A ++ li ++ B) = has f li := by
  have hp := pos_le f li
  unfold has
  rw [pos_mid hA hB, List.append_assoc, List.getElem?_append_right (by omega), Nat.add_sub_cancel_left]
  by_cases h1 : pos f li < li.length
  · rw [List.getElem?_append_left h1]
  · rw [List.getElem?_append_right (by omega), List.getElem?_eq_none (l := li) (by omega)]
    cases hx : B[pos f li - li.length]? with
    | none => rfl
    | some p =>
      have := hB p (List.mem_of_getElem? hx)
      simp [this]

omit hA hB in
theorem take_mid {n : Nat} (hn : n ≤ li.length) : (A ++ li ++ B).take (A.length + n) = A ++ li.take n := by
  rw [List.append_assoc, List.take_append, List.take_of_length_le (by omega), Nat.add_sub_cancel_left, List.take_append_of_le_length hn]
omit hA hB in
theorem drop_mid {n : Nat} (hn : n ≤ li.length) : (A ++ li ++ B).drop (A.length + n) = li.drop n ++ B := by
  rw [List.append_assoc, List.drop_append, List.drop_of_length_le (by omega), Nat.add_sub_cancel_left, List.drop_append_of_le_length hn, List.nil_append]

theorem ins_mid (x : α) : ins f x (A ++ li ++ B) = A ++ ins f x li ++ B := by
  have hp := pos_le f li
  have hh : pos f li + (if has f li then 1 else 0) ≤ li.length := by
    cases h : has f li with
    | true => have := (has_true h).1; simp; omega
    | false => simpa using hp
  unfold ins
  rw [has_mid hA hB, pos_mid hA hB, Nat.add_assoc, take_mid hp, drop_mid hh]
  simp

theorem del_mid : del f (A ++ li ++ B) = A ++ del f li ++ B := by
  have hp := pos_le f li
  unfold del
  rw [has_mid hA hB]
  cases h : has f li with
  | false => simp
  | true =>
    have := (has_true h).1
    simp only [if_true]
    rw [pos_mid hA hB, Nat.add_assoc, take_mid hp, drop_mid (by omega)]
    simp

end mid

/-! ### Order -/

abbrev Srt (c : α → α → Int) (l : List α) : Prop := l.Pairwise fun a b => c a b = -1

theorem srt_get {c : α → α → Int} {l : List α} (h : Srt c l) {i j : Nat} {a b : α} (hij : i < j) (ha : l[i]? = some a) (hb : l[j]? = some b) : c a b = -1 := by
  obtain ⟨h1, rfl⟩ := List.getElem?_eq_some_iff.1 ha
  obtain ⟨h2, rfl⟩ := List.getElem?_eq_some_iff.1 hb
  exact List.pairwise_iff_getElem.1 h i j h1 h2 hij

section order
variable {c : α → α → Int} (O : Ord3 c)
include O

theorem Ord3.lt_le {a b d : α} (h : c a b = -1) (h2 : c b d ≠ 1) : c a d = -1 := by
  rcases O.range b d with h3 | h3 | h3
  · exact O.trans _ _ _ h h3
  · rw [← O.right a b d h3]; exact h
  · exact absurd h3 h2

/-- What is not below stays so towards the list's end. -/
theorem srt_ge {l : List α} (h : Srt c l) {k : α} {i j : Nat} {a b : α} (hij : i ≤ j) (ha : l[i]? = some a) (hb : l[j]? = some b) (hi : c a k ≠ -1) : c b k ≠ -1 := by
  rcases Nat.lt_or_ge i j with h1 | h1
  · intro h2
    exact hi (O.trans _ _ _ (srt_get h h1 ha hb) h2)
  · obtain rfl : i = j := by omega
    rw [ha] at hb; cases hb; exact hi

theorem srt_gt {l : List α} (h : Srt c l) {k : α} {i j : Nat} {a b : α} (hij : i ≤ j) (ha : l[i]? = some a) (hb : l[j]? = some b) (hi : c a k = 1) : c b k = 1 := by
  rcases Nat.lt_or_ge i j with h1 | h1
  · have h2 := srt_get h h1 ha hb
    have h3 : c k a = -1 := (O.swap k a).2 hi
    exact (O.swap k b).1 (O.trans _ _ _ h3 h2)
  · obtain rfl : i = j := by omega
    rw [ha] at hb; cases hb; exact hi

theorem srt_ins {l : List α} (h : Srt c l) (x : α) : Srt c (ins (fun p => c p x) x l) := by
  have hp := pos_le (fun p => c p x) l
  have low : ∀ a ∈ l.take (pos (fun p => c p x) l), c a x = -1 := by
    intro a ha
    obtain ⟨i, hi⟩ := List.getElem?_of_mem ha
    rw [List.getElem?_take] at hi
    split at hi
    · exact pos_lt (fun p => c p x) l i a (by assumption) hi
    · cases hi
  have high : ∀ n, pos (fun p => c p x) l + (if has (fun p => c p x) l then 1 else 0) ≤ n → ∀ b ∈ l.drop n, c x b = -1 := by
    intro n hn b hb
    obtain ⟨i, hi⟩ := List.getElem?_of_mem hb
    rw [List.getElem?_drop] at hi
    have hlen := (List.getElem?_eq_some_iff.1 hi).1
    obtain ⟨p, hpp⟩ : ∃ p, l[pos (fun p => c p x) l]? = some p := ⟨_, List.getElem?_eq_getElem (by omega)⟩
    have hne := pos_at (fun p => c p x) l p hpp
    have hh := has_of (f := fun p => c p x) hpp
    rcases O.range p x with h1 | h1 | h1
    · exact absurd h1 hne
    · rw [hh] at hn
      simp only [h1, decide_true, if_true] at hn
      have h2 := srt_get h (i := pos (fun p => c p x) l) (j := n + i) (by omega) hpp hi
      rw [← O.left p x b h1]; exact h2
    · have h2 := srt_gt O h (i := pos (fun p => c p x) l) (j := n + i) (by omega) hpp hi h1
      exact (O.swap x b).2 h2
  unfold ins
  refine List.pairwise_append.2 ⟨h.sublist (List.take_sublist _ _), List.pairwise_cons.2 ⟨high _ (Nat.le_refl _), h.sublist (List.drop_sublist _ _)⟩, ?_⟩
  intro a ha b hb
  rcases List.mem_cons.1 hb with rfl | hb
  · exact low a ha
  · exact O.trans _ _ _ (low a ha) (high _ (Nat.le_refl _) b hb)
end order

theorem srt_del {c : α → α → Int} {f : α → Int} {l : List α} (h : Srt c l) : Srt c (del f l) := by
  unfold del
  split
  · rw [← List.eraseIdx_eq_take_drop_succ]; exact h.sublist (List.eraseIdx_sublist _ _)
  · exact h

/-! ### The parts of a list in order -/

section parts
variable {c : α → α → Int} (O : Ord3 c)
include O

/-- m: each part's first element. The part in which k belongs: all ahead of it lies below k, all behind it above. -/
theorem parts_low {L : List (List α)} (h : Srt c L.flatten) {k : α} {b : Nat} (hb : ∀ t p, t < b → (L[t]?).bind List.head? = some p → c p k ≠ 1)
    (hne : ∀ l ∈ L, l ≠ []) (hbl : b ≤ L.length) : ∀ a ∈ (L.take (b - 1)).flatten, c a k = -1 := by
  intro a ha
  obtain ⟨l, hl, hal⟩ := List.mem_flatten.1 ha
  obtain ⟨t, ht⟩ := List.getElem?_of_mem hl
  rw [List.getElem?_take] at ht
  split at ht
  · rename_i htb
    have hlt : b - 1 < L.length := by omega
    obtain ⟨p, hp⟩ : ∃ p, (L[b - 1]).head? = some p := by
      cases hq : L[b - 1] with
      | nil => exact absurd hq (hne _ (List.getElem_mem _))
      | cons x _ => exact ⟨x, rfl⟩
    have h1 := hb (b - 1) p (by omega) (by rw [List.getElem?_eq_getElem hlt]; exact hp)
    have h2 := (List.pairwise_flatten.1 h).2
    have h3 := (List.pairwise_iff_getElem.1 h2) t (b - 1) (List.getElem?_eq_some_iff.1 ht).1 hlt htb
    obtain ⟨_, rfl⟩ := List.getElem?_eq_some_iff.1 ht
    exact Ord3.lt_le O (h3 a hal p (List.mem_of_mem_head? hp)) h1
  · cases ht

theorem parts_high {L : List (List α)} (h : Srt c L.flatten) {k : α} {b : Nat} (hb : ∀ t p, b ≤ t → (L[t]?).bind List.head? = some p → c p k = 1)
    {n : Nat} (hn : b ≤ n) : ∀ a ∈ (L.drop n).flatten, c a k = 1 := by
  intro a ha
  obtain ⟨l, hl, hal⟩ := List.mem_flatten.1 ha
  obtain ⟨t, ht⟩ := List.getElem?_of_mem hl
  rw [List.getElem?_drop] at ht
  cases l with
  | nil => cases hal
  | cons p r =>
    have h1 := hb (n + t) p (by omega) (by rw [ht]; rfl)
    rcases List.mem_cons.1 hal with rfl | hal
    · exact h1
    · have h2 := (List.pairwise_flatten.1 h).1 _ (List.mem_of_getElem? ht)
      have h3 := (List.pairwise_cons.1 h2).1 a hal
      exact (O.swap k a).1 (O.trans _ _ _ ((O.swap k p).2 h1) h3)

omit O in
/-- The parts' first elements are in order. -/
theorem parts_heads {L : List (List α)} (h : Srt c L.flatten) {i j : Nat} {a b : α} (hij : i < j) (ha : (L[i]?).bind List.head? = some a) (hb : (L[j]?).bind List.head? = some b) : c a b = -1 := by
  cases hi : L[i]? with
  | none => simp [hi] at ha
  | some x =>
    cases hj : L[j]? with
    | none => simp [hj] at hb
    | some y =>
      simp only [hi, hj, Option.bind_some] at ha hb
      obtain ⟨h1, rfl⟩ := List.getElem?_eq_some_iff.1 hi
      obtain ⟨h2, rfl⟩ := List.getElem?_eq_some_iff.1 hj
      exact (List.pairwise_iff_getElem.1 (List.pairwise_flatten.1 h).2) i j h1 h2 hij a (List.mem_of_mem_head? ha) b (List.mem_of_mem_head? hb)
end parts

/-! ### The same of a list's image -/

theorem pos_map {β : Type} (f : β → Int) (g : α → β) : ∀ l : List α, pos f (l.map g) = pos (fun a => f (g a)) l
  | [] => rfl
  | p :: t => by simp only [List.map_cons, pos, pos_map f g t]
theorem has_map {β : Type} (f : β → Int) (g : α → β) (l : List α) : has f (l.map g) = has (fun a => f (g a)) l := by
  unfold has
  rw [pos_map, List.getElem?_map]
  cases l[pos (fun a => f (g a)) l]? <;> rfl
theorem ins_map {β : Type} (f : β → Int) (g : α → β) (x : α) (l : List α) : ins f (g x) (l.map g) = (ins (fun a => f (g a)) x l).map g := by
  unfold ins
  rw [pos_map, has_map]
  simp
theorem del_map {β : Type} (f : β → Int) (g : α → β) (l : List α) : del f (l.map g) = (del (fun a => f (g a)) l).map g := by
  unfold del
  rw [pos_map, has_map]
  split <;> simp
theorem look_map {β : Type} (f : β → Int) (g : α → β) (l : List α) : look f (l.map g) = (look (fun a => f (g a)) l).map g := by
  unfold look
  rw [pos_map, has_map]
  split <;> simp

end Lst
end Go.Proofs.YtfejflhgaphilaaGreatDoor

namespace Go.Proofs.YtfejflhgaphilaaGreatDoor
open Lst

/-- Which of two numbers is the lesser. -/
def sgn (a b : Int) : Int := if a < b then -1 else if b < a then 1 else 0

/-- The comparison of numbers of the kind k (n: the number whose remainders are compared first). -/
def cmpI (k n a b : Int) : Int := if k = 2 then sgn b a else if k = 3 then (if a % n = b % n then sgn a b else sgn (a % n) (b % n)) else sgn a b

def cb (a b : ByteArray) : Int := Lib.compareBytes a.data.toList b.data.toList

/-- The comparison of texts of the kind k. -/
def cmpS (k : Int) (a b : ByteArray) : Int := if k = 2 then cb b a else if k = 3 then (if a.size = b.size then cb a b else sgn a.size b.size) else cb a b

theorem sgn_lt (a b : Int) : sgn a b = -1 ↔ a < b := by unfold sgn; by_cases h1 : a < b <;> by_cases h2 : b < a <;> simp [h1, h2]
theorem sgn_gt (a b : Int) : sgn a b = 1 ↔ b < a := by unfold sgn; by_cases h1 : a < b <;> by_cases h2 : b < a <;> simp [h1, h2] <;> omega
theorem sgn_zero (a b : Int) : sgn a b = 0 ↔ a = b := by unfold sgn; by_cases h1 : a < b <;> by_cases h2 : b < a <;> simp [h1, h2] <;> omega
theorem sgn_eq {a b : Int} (h : sgn a b = 0) : a = b := (sgn_zero a b).1 h

theorem ord_sgn : Ord3 sgn where
  range a b := by rw [sgn_lt, sgn_zero, sgn_gt]; omega
  refl a := (sgn_zero a a).2 rfl
  swap a b := by rw [sgn_lt, sgn_gt]
  symm a b := by rw [sgn_zero, sgn_zero]; exact Eq.symm
  trans a b d := by rw [sgn_lt, sgn_lt, sgn_lt]; omega
  left a b d h := by rw [sgn_eq h]
  right a b d h := by rw [sgn_eq h]

/-- An order, turned round. -/
theorem Lst.Ord3.turned {α : Type} {c : α → α → Int} (O : Ord3 c) : Ord3 (fun a b => c b a) where
  range a b := O.range b a
  refl a := O.refl a
  swap a b := O.swap b a
  symm a b h := O.symm _ _ h
  trans a b d h1 h2 := O.trans _ _ _ h2 h1
  left a b d h := (O.right d b a (O.symm _ _ (O.symm _ _ h))).symm
  right a b d h := (O.left d b a (O.symm _ _ (O.symm _ _ h))).symm

/-- Of things that are compared by an image first. -/
theorem Lst.Ord3.lex {α : Type} {c : α → α → Int} (O : Ord3 c) (g : α → Int) : Ord3 (fun a b => if g a = g b then c a b else sgn (g a) (g b)) where
  range a b := by
    show (if g a = g b then c a b else sgn (g a) (g b)) = -1 ∨ _
    by_cases h : g a = g b <;> simp only [h, if_true, if_false]
    · exact O.range a b
    · exact ord_sgn.range _ _
  refl a := by show (if g a = g a then c a a else _) = 0; rw [if_pos rfl]; exact O.refl a
  swap a b := by
    show (if g a = g b then c a b else sgn (g a) (g b)) = -1 ↔ (if g b = g a then c b a else sgn (g b) (g a)) = 1
    by_cases h : g a = g b
    · rw [if_pos h, if_pos h.symm]; exact O.swap a b
    · rw [if_neg h, if_neg (fun e => h e.symm)]; exact ord_sgn.swap _ _
  symm a b := by
    show (if g a = g b then c a b else sgn (g a) (g b)) = 0 → (if g b = g a then c b a else sgn (g b) (g a)) = 0
    by_cases h : g a = g b
    · rw [if_pos h, if_pos h.symm]; exact O.symm a b
    · rw [if_neg h, if_neg (fun e => h e.symm)]; exact ord_sgn.symm _ _
  trans a b d := by
    show (if g a = g b then c a b else sgn (g a) (g b)) = -1 → (if g b = g d then c b d else sgn (g b) (g d)) = -1 → (if g a = g d then c a d else sgn (g a) (g d)) = -1
    intro h1 h2
    by_cases e1 : g a = g b
    · by_cases e2 : g b = g d
      · rw [if_pos e1] at h1; rw [if_pos e2] at h2; rw [if_pos (e1.trans e2)]; exact O.trans _ _ _ h1 h2
      · rw [if_neg e2] at h2; rw [e1, if_neg e2]; exact h2
    · rw [if_neg e1] at h1
      by_cases e2 : g b = g d
      · rw [← e2, if_neg e1]; exact h1
      · rw [if_neg e2] at h2
        have h3 := ord_sgn.trans _ _ _ h1 h2
        by_cases e3 : g a = g d
        · rw [e3, ord_sgn.refl] at h3; cases h3
        · rw [if_neg e3]; exact h3
  left a b d := by
    show (if g a = g b then c a b else sgn (g a) (g b)) = 0 → (if g a = g d then c a d else sgn (g a) (g d)) = (if g b = g d then c b d else sgn (g b) (g d))
    intro h
    by_cases e1 : g a = g b
    · rw [if_pos e1] at h; rw [e1, O.left a b d h]
    · rw [if_neg e1] at h; exact absurd (sgn_eq h) e1
  right a b d := by
    show (if g b = g d then c b d else sgn (g b) (g d)) = 0 → (if g a = g b then c a b else sgn (g a) (g b)) = (if g a = g d then c a d else sgn (g a) (g d))
    intro h
    by_cases e1 : g b = g d
    · rw [if_pos e1] at h; rw [e1, O.right a b d h]
    · rw [if_neg e1] at h; exact absurd (sgn_eq h) e1

/-- Of things that are compared by their images. -/
theorem Lst.Ord3.by {α β : Type} {c : β → β → Int} (O : Ord3 c) (g : α → β) : Ord3 (fun a b => c (g a) (g b)) where
  range a b := O.range _ _
  refl a := O.refl _
  swap a b := O.swap _ _
  symm a b := O.symm _ _
  trans a b d := O.trans _ _ _
  left a b d := O.left _ _ _
  right a b d := O.right _ _ _

theorem cmpB_eq : ∀ a b : List UInt8, Lib.compareBytes a b = 0 → a = b
  | [], [], _ => rfl
  | [], _ :: _, h => by simp [Lib.compareBytes] at h
  | _ :: _, [], h => by simp [Lib.compareBytes] at h
  | x :: a, y :: b, h => by
    unfold Lib.compareBytes at h
    split at h
    · cases h
    · split at h
      · cases h
      · rename_i h1 h2
        rw [cmpB_eq a b h, UInt8.le_antisymm (UInt8.not_lt.1 h2) (UInt8.not_lt.1 h1)]

theorem cmpB_refl : ∀ a : List UInt8, Lib.compareBytes a a = 0
  | [] => rfl
  | x :: a => by unfold Lib.compareBytes; simp [UInt8.lt_irrefl, cmpB_refl a]

theorem cmpB_range : ∀ a b : List UInt8, Lib.compareBytes a b = -1 ∨ Lib.compareBytes a b = 0 ∨ Lib.compareBytes a b = 1
  | [], [] => by simp [Lib.compareBytes]
  | [], _ :: _ => by simp [Lib.compareBytes]
  | _ :: _, [] => by simp [Lib.compareBytes]
  | x :: a, y :: b => by
    unfold Lib.compareBytes
    split
    · simp
    · split
      · simp
      · exact cmpB_range a b

theorem cmpB_swap : ∀ a b : List UInt8, Lib.compareBytes a b = -1 ↔ Lib.compareBytes b a = 1
  | [], [] => by simp [Lib.compareBytes]
  | [], _ :: _ => by simp [Lib.compareBytes]
  | _ :: _, [] => by simp [Lib.compareBytes]
  | x :: a, y :: b => by
    unfold Lib.compareBytes
    by_cases h1 : x < y
    · have h2 : ¬ y < x := fun h => UInt8.lt_irrefl _ (UInt8.lt_trans h h1)
      simp [h1, h2]
    · by_cases h2 : y < x
      · simp [h1, h2]
      · simp only [h1, h2, if_false]; exact cmpB_swap a b

theorem cmpB_trans : ∀ a b d : List UInt8, Lib.compareBytes a b = -1 → Lib.compareBytes b d = -1 → Lib.compareBytes a d = -1
  | [], [], _, h, _ => by simp [Lib.compareBytes] at h
  | [], _ :: _, [], _, h => by simp [Lib.compareBytes] at h
  | [], _ :: _, _ :: _, _, _ => by simp [Lib.compareBytes]
  | _ :: _, [], _, h, _ => by simp [Lib.compareBytes] at h
  | _ :: _, _ :: _, [], _, h => by simp [Lib.compareBytes] at h
  | x :: a, y :: b, z :: d, h1, h2 => by
    unfold Lib.compareBytes at h1 h2 ⊢
    by_cases e1 : x < y
    · by_cases e2 : y < z
      · rw [if_pos (UInt8.lt_trans e1 e2)]
      · rw [if_neg e2] at h2
        by_cases e3 : z < y
        · rw [if_pos e3] at h2; cases h2
        · have : y = z := UInt8.le_antisymm (UInt8.not_lt.1 e3) (UInt8.not_lt.1 e2)
          rw [← this, if_pos e1]
    · rw [if_neg e1] at h1
      by_cases e3 : y < x
      · rw [if_pos e3] at h1; cases h1
      · rw [if_neg e3] at h1
        have e : x = y := UInt8.le_antisymm (UInt8.not_lt.1 e3) (UInt8.not_lt.1 e1)
        subst e
        by_cases e2 : x < z
        · rw [if_pos e2]
        · rw [if_neg e2] at h2 ⊢
          by_cases e4 : z < x
          · rw [if_pos e4] at h2; cases h2
          · rw [if_neg e4] at h2 ⊢; exact cmpB_trans a b d h1 h2

theorem ord_cmpB : Ord3 Lib.compareBytes where
  range := cmpB_range
  refl := cmpB_refl
  swap := cmpB_swap
  symm a b h := by rw [cmpB_eq a b h]; exact cmpB_refl b
  trans := cmpB_trans
  left a b d h := by rw [cmpB_eq a b h]
  right a b d h := by rw [cmpB_eq b d h]

theorem ord_cb : Ord3 cb := ord_cmpB.by fun a : ByteArray => a.data.toList
theorem cb_eq {a b : ByteArray} (h : cb a b = 0) : a = b := by
  have := cmpB_eq _ _ h
  cases a; cases b; simp at this; rw [this]

theorem ord_cmpI (k n : Int) : Ord3 (cmpI k n) := by
  unfold cmpI
  by_cases h2 : k = 2
  · simp only [h2, if_true]; exact ord_sgn.turned
  · by_cases h3 : k = 3
    · simp only [h2, if_false, h3, if_true]; exact ord_sgn.lex (fun a => a % n)
    · simp only [h2, if_false, h3]; exact ord_sgn

theorem ord_cmpS (k : Int) : Ord3 (cmpS k) := by
  unfold cmpS
  by_cases h2 : k = 2
  · simp only [h2, if_true]; exact ord_cb.turned
  · by_cases h3 : k = 3
    · subst h3
      have := ord_cb.lex (fun a => (a.size : Int))
      simp only [Int.natCast_inj] at this
      simpa using this
    · simp only [h2, if_false, h3]; exact ord_cb

end Go.Proofs.YtfejflhgaphilaaGreatDoor

namespace Go.Proofs.YtfejflhgaphilaaGreatDoor
open Lst

/-- A key, a number or a text, with a value. -/
structure Pr where
  key : Int
  text : ByteArray
  val : Int

def pr0 : Pr := ⟨0, ⟨#[]⟩, 0⟩
def cmpP (txt : Bool) (kk nn : Int) (a b : Pr) : Int := if txt = true then cmpS kk a.text b.text else cmpI kk nn a.key b.key
def fP (txt : Bool) (kk nn : Int) (k p : Pr) : Int := cmpP txt kk nn p k

theorem ordP (txt : Bool) (kk nn : Int) : Ord3 (cmpP txt kk nn) := by
  cases txt
  · exact (ord_cmpI kk nn).by Pr.key
  · exact (ord_cmpS kk).by Pr.text

/-- The pair of a number, or of a text, and a value. -/
def embI (q : Int × Int) : Pr := ⟨q.1, ⟨#[]⟩, q.2⟩
def embS (q : ByteArray × Int) : Pr := ⟨0, q.1, q.2⟩

def keyP (txt : Bool) (p : Pr) : Pr := if txt = true then ⟨0, p.text, p.val⟩ else ⟨p.key, ⟨#[]⟩, p.val⟩
def zeroP (set : Bool) (p : Pr) : Pr := if set = true then ⟨p.key, p.text, 0⟩ else p

/-! ### The moves of an iterator -/

structure Mv where
  op : Int
  key : Int
  text : ByteArray

/-- Where n is a place among m: nowhere behind the last one. -/
def landP (n m : Nat) : Int := if n = m then -1 else (n : Int)

def moveAt (seek m : Nat) (op : Int) (t : Int) : Int :=
  if op = 0 then landP 0 m else if op = 1 then (m : Int) - 1 else if op = 2 then (if t < 0 then t else landP (t.toNat + 1) m) else if op = 3 then (if t < 0 then t else t - 1) else landP seek m

/-- What a move returns: a pair, whether there was one, and whether nothing is left behind it. -/
def moveSays (L : List Pr) (op t t' : Int) : Pr × Bool × Bool :=
  if (op = 2 ∨ op = 3) ∧ 0 ≤ t then ((L[t.toNat]?).getD pr0, true, decide (t' < 0)) else (pr0, false, decide (t' < 0))

def walkRun (seek : Mv → Nat) (L : List Pr) : Int → List Mv → List (Pr × Bool × Bool)
  | _, [] => []
  | t, m :: ms => moveSays L m.op t (moveAt (seek m) L.length m.op t) :: walkRun seek L (moveAt (seek m) L.length m.op t) ms

theorem walk_step {seek : Mv → Nat} {L : List Pr} {t t0 : Int} {ms : List Mv} {i : Nat} {m : Mv} {outs : List (Pr × Bool × Bool)} (hm : ms[i]? = some m)
    (h : walkRun seek L t0 ms = outs ++ walkRun seek L t (ms.drop i)) :
    walkRun seek L t0 ms = (outs ++ [moveSays L m.op t (moveAt (seek m) L.length m.op t)]) ++ walkRun seek L (moveAt (seek m) L.length m.op t) (ms.drop (i + 1)) := by
  obtain ⟨hi, he⟩ := List.getElem?_eq_some_iff.1 hm
  rw [h, List.drop_eq_getElem_cons hi, he, walkRun]
  simp

/-! ### Pairs put one behind the other -/

def putAll (txt : Bool) (kk nn : Int) (ps : List Pr) (l : List Pr) : List Pr := ps.foldl (fun l k => ins (fP txt kk nn k) k l) l
def dropAll (txt : Bool) (kk nn : Int) (ps : List Pr) (l : List Pr) : List Pr := ps.foldl (fun l k => del (fP txt kk nn k) l) l

theorem putAll_step {txt : Bool} {kk nn : Int} {ps l l0 : List Pr} {i : Nat} {k : Pr} (hk : ps[i]? = some k) (h : putAll txt kk nn ps l0 = putAll txt kk nn (ps.drop i) l) :
    putAll txt kk nn ps l0 = putAll txt kk nn (ps.drop (i + 1)) (ins (fP txt kk nn k) k l) := by
  obtain ⟨hi, he⟩ := List.getElem?_eq_some_iff.1 hk
  rw [h, List.drop_eq_getElem_cons hi, he]
  rfl
theorem dropAll_step {txt : Bool} {kk nn : Int} {ps l l0 : List Pr} {i : Nat} {k : Pr} (hk : ps[i]? = some k) (h : dropAll txt kk nn ps l0 = dropAll txt kk nn (ps.drop i) l) :
    dropAll txt kk nn ps l0 = dropAll txt kk nn (ps.drop (i + 1)) (del (fP txt kk nn k) l) := by
  obtain ⟨hi, he⟩ := List.getElem?_eq_some_iff.1 hk
  rw [h, List.drop_eq_getElem_cons hi, he]
  rfl
theorem putAll_end {txt : Bool} {kk nn : Int} {ps l l0 : List Pr} {i : Nat} (hi : ps.length ≤ i) (h : putAll txt kk nn ps l0 = putAll txt kk nn (ps.drop i) l) : l = putAll txt kk nn ps l0 := by
  rw [h, List.drop_eq_nil_of_le hi]; rfl
theorem dropAll_end {txt : Bool} {kk nn : Int} {ps l l0 : List Pr} {i : Nat} (hi : ps.length ≤ i) (h : dropAll txt kk nn ps l0 = dropAll txt kk nn (ps.drop i) l) : l = dropAll txt kk nn ps l0 := by
  rw [h, List.drop_eq_nil_of_le hi]; rfl

theorem len_putAll {txt : Bool} {kk nn : Int} : ∀ (ps : List Pr) {l : List Pr}, (putAll txt kk nn ps l).length ≤ l.length + ps.length
  | [], _ => Nat.le_refl _
  | k :: ps, l => by
    have h := len_putAll (txt := txt) (kk := kk) (nn := nn) ps (l := ins (fP txt kk nn k) k l)
    have h2 := length_ins (fP txt kk nn k) k l
    simp only [putAll, List.foldl_cons, List.length_cons] at h ⊢
    split at h2 <;> omega
theorem len_dropAll {txt : Bool} {kk nn : Int} : ∀ (ps : List Pr) {l : List Pr}, (dropAll txt kk nn ps l).length ≤ l.length
  | [], _ => Nat.le_refl _
  | k :: ps, l => by
    have h := len_dropAll (txt := txt) (kk := kk) (nn := nn) ps (l := del (fP txt kk nn k) l)
    have h2 := length_del (fP txt kk nn k) l
    simp only [dropAll, List.foldl_cons] at h ⊢
    omega

/-! ### Scripts over versions -/

structure St where
  op : Int
  at_ : Int
  key : Int
  text : ByteArray
  val : Int
  count : Int
  by_ : Int

structure An where
  val : Int
  n : Int
  ok : Bool
  list : List Pr

def an0 : An := ⟨0, 0, false, []⟩

def w64 (x : Int) : Int := IntKind.i64.wrap x

def digits (n : Int) : ByteArray := ⟨(Lib.itoa n).toArray⟩

def manyP (txt : Bool) (s : St) (i : Nat) : Pr :=
  if txt = true then ⟨0, s.text ++ digits (w64 (s.key + w64 (i * s.by_))), w64 (s.val + i)⟩ else ⟨w64 (s.key + w64 (i * s.by_)), ⟨#[]⟩, w64 (s.val + i)⟩

def rawKeys (txt : Bool) (s : St) : List Pr :=
  if s.op = 5 ∨ s.op = 6 then (List.range s.count.toNat).map (manyP txt s) else [keyP txt ⟨s.key, s.text, s.val⟩]
def stepKeys (txt set : Bool) (s : St) : List Pr := (rawKeys txt s).map (zeroP set)

def stepNext (txt set : Bool) (kk nn : Int) (l : List Pr) (s : St) : Option (List Pr) :=
  if s.op = 0 ∨ s.op = 5 then some (putAll txt kk nn (stepKeys txt set s) l) else if s.op = 1 ∨ s.op = 6 then some (dropAll txt kk nn (stepKeys txt set s) l) else none

def stepLook (txt set : Bool) (kk nn : Int) (l : List Pr) (s : St) : An :=
  match Lst.look (fP txt kk nn (zeroP set (keyP txt ⟨s.key, s.text, s.val⟩))) l with
  | some p => ⟨p.val, 0, true, []⟩
  | none => an0

def stepSays (txt set : Bool) (kk nn : Int) (l : List Pr) (s : St) : An :=
  match stepNext txt set kk nn l s with
  | some l' => ⟨0, l'.length, false, []⟩
  | none => if s.op = 2 then stepLook txt set kk nn l s else if s.op = 3 then ⟨0, l.length, false, l⟩ else if s.op = 4 then ⟨0, l.length, false, l.reverse⟩ else an0

def verAt (vs : List (List Pr)) (i : Int) : List Pr := (vs[(i % (vs.length : Int)).toNat]?).getD []

def runA (txt set : Bool) (kk nn : Int) : List (List Pr) → List St → List An
  | _, [] => []
  | vs, s :: ss => stepSays txt set kk nn (verAt vs s.at_) s :: runA txt set kk nn (vs ++ (stepNext txt set kk nn (verAt vs s.at_) s).toList) ss

theorem runA_step {txt set : Bool} {kk nn : Int} {vs vs0 : List (List Pr)} {ss : List St} {i : Nat} {s : St} {outs : List An} (hs : ss[i]? = some s)
    (h : runA txt set kk nn vs0 ss = outs ++ runA txt set kk nn vs (ss.drop i)) :
    runA txt set kk nn vs0 ss = (outs ++ [stepSays txt set kk nn (verAt vs s.at_) s]) ++ runA txt set kk nn (vs ++ (stepNext txt set kk nn (verAt vs s.at_) s).toList) (ss.drop (i + 1)) := by
  obtain ⟨hi, he⟩ := List.getElem?_eq_some_iff.1 hs
  rw [h, List.drop_eq_getElem_cons hi, he, runA]
  simp

theorem runA_end {txt set : Bool} {kk nn : Int} {vs vs0 : List (List Pr)} {ss : List St} {i : Nat} {outs : List An} (hi : ss.length ≤ i)
    (h : runA txt set kk nn vs0 ss = outs ++ runA txt set kk nn vs (ss.drop i)) : outs = runA txt set kk nn vs0 ss := by
  rw [h, List.drop_eq_nil_of_le hi, runA, List.append_nil]

theorem len_stepKeys (txt set : Bool) (s : St) : (stepKeys txt set s).length = if s.op = 5 ∨ s.op = 6 then s.count.toNat else 1 := by
  unfold stepKeys rawKeys
  split <;> simp
end Go.Proofs.YtfejflhgaphilaaGreatDoor

namespace Go.Proofs.YtfejflhgaphilaaGreatDoor
open Lst

/-- The keys that a step may put. -/
def wt (s : St) : Nat := if s.op = 5 ∨ s.op = 6 then s.count.toNat else 1
def wts (ss : List St) : Nat := (ss.map wt).sum

theorem wts_next {ss : List St} {i : Nat} {s : St} (h : ss[i]? = some s) : wts (ss.take (i + 1)) = wts (ss.take i) + wt s := by
  obtain ⟨hl, he⟩ := List.getElem?_eq_some_iff.1 h
  unfold wts
  rw [List.take_succ_eq_append_getElem hl, he, List.map_append, List.sum_append]
  simp
theorem wts_le (ss : List St) (i : Nat) : wts (ss.take i) ≤ wts ss := by
  have h : wts ss = wts (ss.take i) + wts (ss.drop i) := by
    unfold wts
    rw [← List.sum_append, ← List.map_append, List.take_append_drop]
  omega
theorem wts_zero (ss : List St) : wts (ss.take 0) = 0 := rfl

/-- A step that makes a new version. -/
def NewV (op : Int) : Prop := op = 0 ∨ op = 1 ∨ op = 5 ∨ op = 6

theorem stepNext_put {txt set : Bool} {kk nn : Int} {l : List Pr} {s : St} (h : s.op = 0 ∨ s.op = 5) : stepNext txt set kk nn l s = some (putAll txt kk nn (stepKeys txt set s) l) := by
  unfold stepNext; rw [if_pos h]
theorem stepNext_drop {txt set : Bool} {kk nn : Int} {l : List Pr} {s : St} (h : s.op = 1 ∨ s.op = 6) : stepNext txt set kk nn l s = some (dropAll txt kk nn (stepKeys txt set s) l) := by
  unfold stepNext; rw [if_neg (by omega), if_pos h]
theorem stepNext_none {txt set : Bool} {kk nn : Int} {l : List Pr} {s : St} (h : ¬ NewV s.op) : stepNext txt set kk nn l s = none := by
  unfold NewV at h; unfold stepNext; rw [if_neg (by omega), if_neg (by omega)]
theorem stepSays_new {txt set : Bool} {kk nn : Int} {l l' : List Pr} {s : St} (h : stepNext txt set kk nn l s = some l') : stepSays txt set kk nn l s = ⟨0, l'.length, false, []⟩ := by
  unfold stepSays; rw [h]
theorem stepSays_look {txt set : Bool} {kk nn : Int} {l : List Pr} {s : St} (h : s.op = 2) : stepSays txt set kk nn l s = stepLook txt set kk nn l s := by
  unfold stepSays; rw [stepNext_none (by unfold NewV; omega)]; simp only []; rw [if_pos h]
theorem stepSays_list {txt set : Bool} {kk nn : Int} {l : List Pr} {s : St} (h : s.op = 3) : stepSays txt set kk nn l s = ⟨0, l.length, false, l⟩ := by
  unfold stepSays; rw [stepNext_none (by unfold NewV; omega)]; simp only []; rw [if_neg (by omega), if_pos h]
theorem stepSays_back {txt set : Bool} {kk nn : Int} {l : List Pr} {s : St} (h : s.op = 4) : stepSays txt set kk nn l s = ⟨0, l.length, false, l.reverse⟩ := by
  unfold stepSays; rw [stepNext_none (by unfold NewV; omega)]; simp only []; rw [if_neg (by omega), if_neg (by omega), if_pos h]

theorem keys_one {txt set : Bool} {s : St} (h : ¬ (s.op = 5 ∨ s.op = 6)) : stepKeys txt set s = [zeroP set (keyP txt ⟨s.key, s.text, s.val⟩)] := by
  unfold stepKeys rawKeys; rw [if_neg h]; rfl
theorem keys_many {txt set : Bool} {s : St} (h : s.op = 5 ∨ s.op = 6) : stepKeys txt set s = (List.range s.count.toNat).map fun i => zeroP set (manyP txt s i) := by
  unfold stepKeys rawKeys; rw [if_pos h, List.map_map]; rfl
theorem keys_at {txt set : Bool} {s : St} (h : s.op = 5 ∨ s.op = 6) {i : Nat} (hi : i < s.count.toNat) : (stepKeys txt set s)[i]? = some (zeroP set (manyP txt s i)) := by
  rw [keys_many h, List.getElem?_map, List.getElem?_range hi]; rfl
theorem wt_one {s : St} (h : ¬ (s.op = 5 ∨ s.op = 6)) : wt s = 1 := by unfold wt; rw [if_neg h]
theorem wt_many {s : St} (h : s.op = 5 ∨ s.op = 6) : wt s = s.count.toNat := by unfold wt; rw [if_pos h]
theorem len_keys {txt set : Bool} {s : St} : (stepKeys txt set s).length = wt s := len_stepKeys txt set s
theorem len_next {txt set : Bool} {kk nn : Int} {l l' : List Pr} {s : St} (h : stepNext txt set kk nn l s = some l') : l'.length ≤ l.length + wt s := by
  unfold stepNext at h
  split at h
  · injection h with h
    rw [← h, ← len_keys (txt := txt) (set := set)]
    exact len_putAll _
  · split at h
    · injection h with h
      rw [← h]
      have := len_dropAll (txt := txt) (kk := kk) (nn := nn) (stepKeys txt set s) (l := l)
      omega
    · cases h
end Go.Proofs.YtfejflhgaphilaaGreatDoor

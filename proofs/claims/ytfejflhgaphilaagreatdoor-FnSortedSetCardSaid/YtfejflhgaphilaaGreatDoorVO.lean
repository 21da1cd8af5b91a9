/-
  SCRIPTS IN THE WORLD: steps and answers as rows; the versions that a script has made, and the answers that it has given, in blocks that stay.
  THE WALK of the specification's drop: a key taken out of pairs in order, in a row that is owned.
  THE WALK of the specification's digits of a number.
  THE WALK of the specification's SortedKeys: the pairs that a step puts, or takes out.
  SCRIPTS IN THE WORLD, as the specification keeps them: versions are slices of pairs; 'append' of a slice that may be nil.
  THE WALKS of the keys of a step that puts or takes out many; the table of powers of ten; what a step over sets leaves, in the world.
-/
import Derived.Test.YtfejflhgaphilaaGreatDoorVN
import Derived.Test.YtfejflhgaphilaaGreatDoorVM
import Derived.Test.YtfejflhgaphilaaGreatDoorVC
import Derived.Laws.IdiomStrings
import Derived.Laws.AppendOwnNone
import Derived.Test.YtfejflhgaphilaaGreatDoorVB
import Derived.Test.YtfejflhgaphilaaGreatDoorVA
import Derived.Test.YtfejflhgaphilaaGreatDoorVK
import Derived.Lib.SmallJoins
import Derived.Lib.AppendIntMem
import Derived.Deep.RegionHeld3
set_option linter.all false
set_option linter.unusedVariables false
set_option linter.unusedSimpArgs false
set_option linter.unusedSectionVars false
namespace Go.Proofs.YtfejflhgaphilaaGreatDoor
open Go.RowKit Go.Sort Lst

abbrev St.cells (s : St) : List Value := [.int .u8 s.op, .int .i64 s.at_, .int .i64 s.key, .string s.text, .int .i64 s.val, .int .i64 s.count, .int .i64 s.by_]
theorem len_stc : ∀ s : St, s.cells.length = 7 := fun _ => rfl
abbrev sts (l : List St) : List Value := l.flatMap St.cells
theorem oneSt (s : St) : ∀ v ∈ s.cells, v.oneCell' = true := by
  intro v h
  simp only [List.mem_cons, List.not_mem_nil, or_false] at h
  rcases h with rfl | rfl | rfl | rfl | rfl | rfl | rfl <;> rfl
theorem Row.st {w : World} {b o : Nat} {l : List St} (h : Row w b o (sts l)) {i : Nat} {s : St} (hs : l[i]? = some s) :
    w.cell? ⟨b, o + i * 7, none⟩ = some (.int .u8 s.op) ∧ w.cell? ⟨b, o + i * 7 + 1, none⟩ = some (.int .i64 s.at_) ∧ w.cell? ⟨b, o + i * 7 + 2, none⟩ = some (.int .i64 s.key) ∧ w.cell? ⟨b, o + i * 7 + 3, none⟩ = some (.string s.text) ∧
    w.cell? ⟨b, o + i * 7 + 4, none⟩ = some (.int .i64 s.val) ∧ w.cell? ⟨b, o + i * 7 + 5, none⟩ = some (.int .i64 s.count) ∧ w.cell? ⟨b, o + i * 7 + 6, none⟩ = some (.int .i64 s.by_) := by
  have h0 := h (i * 7 + 0) _ (flat_get len_stc hs (by decide))
  have h1 := h (i * 7 + 1) _ (flat_get len_stc hs (by decide))
  have h2 := h (i * 7 + 2) _ (flat_get len_stc hs (by decide))
  have h3 := h (i * 7 + 3) _ (flat_get len_stc hs (by decide))
  have h4 := h (i * 7 + 4) _ (flat_get len_stc hs (by decide))
  have h5 := h (i * 7 + 5) _ (flat_get len_stc hs (by decide))
  have h6 := h (i * 7 + 6) _ (flat_get len_stc hs (by decide))
  rw [← Nat.add_assoc] at h0 h1 h2 h3 h4 h5 h6
  exact ⟨h0, h1, h2, h3, h4, h5, h6⟩

/-- A step as the guards let in. -/
structure StOK (s : St) : Prop where
  lo : 0 ≤ s.op
  hi : s.op ≤ 6
  at_ : I64 s.at_
  key : I64 s.key
  val : I64 s.val
  by_ : I64 s.by_
  cl : 0 ≤ s.count
  ch : s.count ≤ 3000
  text : s.text.size ≤ 100

/-- The four cells of an answer, the list as a slice. -/
abbrev anc (x : An × Value) : List Value := [.int .i64 x.1.val, .int .i64 x.1.n, .bool x.1.ok, x.2]
theorem len_anc : ∀ x, (anc x).length = 4 := fun _ => rfl
abbrev ancs (l : List (An × Value)) : List Value := l.flatMap anc

/-- The lists of answers lie in blocks of S. -/
def Lists (w : World) (S : Nat → Prop) (outs : List (An × Value)) : Prop := ∀ x ∈ outs, RowS w S x.2 x.1.list.length (prs x.1.list)
theorem Lists.keep {w w' : World} {S S' : Nat → Prop} {outs : List (An × Value)} (h : Lists w S outs) (hS : ∀ b, S b → S' b) (hw : ∀ b, S b → w'.heap[b]? = w.heap[b]?) : Lists w' S' outs := fun x hx => (h x hx).keep hS hw

/-- v is a slice of answers, all of which lies from base on. -/
def Answers (base : Nat) (w : World) (v : Value) (al : List An) : Prop :=
  ∃ outs : List (An × Value), outs.map (·.1) = al ∧ RowS w (fun b => base ≤ b) v outs.length (ancs outs) ∧ Lists w (fun b => base ≤ b) outs
theorem Answers.keep {base : Nat} {w w' : World} {v : Value} {al : List An} (h : Answers base w v al) (hw : ∀ b, base ≤ b → w'.heap[b]? = w.heap[b]?) : Answers base w' v al := by
  obtain ⟨outs, h1, h2, h3⟩ := h
  exact ⟨outs, h1, h2.keep (fun _ h => h) hw, h3.keep (fun _ h => h) hw⟩

/-- Versions: rows of pointers to what MA says of; answers; S: the blocks that stay. -/
structure Run {κ : Type} (MA : World → (Nat → Prop) → Nat → Nat → List (κ × Int) → Prop) (ty : TypeId) (base : Nat) (w : World) (S : Nat → Prop) (N : Nat) (ls : List (List (κ × Int))) (v7 : Value) (outs : List (An × Value)) (v8 : Value) : Prop where
  lt : ∀ x, S x → x < w.heap.size
  ge : ∀ x, S x → base ≤ x
  big : base ≤ w.heap.size
  row : ∃ ps : List Nat, ps.length = ls.length ∧ w.ownsRow base ty 1 v7 ls.length (ps.map fun p => Value.pointer (some ⟨p, 0, none⟩)) ∧ ∀ (j p : Nat) (l : List (κ × Int)), ps[j]? = some p → ls[j]? = some l → MA w S p N l
  out : w.ownsRow base 92 4 v8 outs.length (ancs outs)
  lists : Lists w S outs
  n7 : ∀ k, v7.ownBlock = some k → ¬ S k
  n8 : ∀ k, v8.ownBlock = some k → ¬ S k
  ne : ∀ k, v7.ownBlock = some k → v8.ownBlock ≠ some k

/-- What MA says stays true where the blocks of S are as they were. -/
def Keeps {κ : Type} (MA : World → (Nat → Prop) → Nat → Nat → List (κ × Int) → Prop) : Prop :=
  ∀ (w w' : World) (S S' : Nat → Prop) (p N M : Nat) (l : List (κ × Int)), MA w S p N l → (∀ b, S b → S' b) → (∀ b, S b → w'.heap[b]? = w.heap[b]?) → N ≤ M → MA w' S' p M l

theorem own_same {w w' : World} {base : Nat} {e : TypeId} {size : Nat} {v : Value} {n : Nat} {xs : List Value} (h : w.ownsRow base e size v n xs) (hw : ∀ k, v.ownBlock = some k → w'.heap[k]? = w.heap[k]?) : w'.ownsRow base e size v n xs := by
  refine ⟨h.1, h.2.imp id ?_⟩
  rintro ⟨g, cap, cur, rfl, hb, hg, rest⟩
  exact ⟨g, cap, cur, rfl, hb, (hw g rfl).trans hg, rest⟩

section
variable {κ : Type} {MA : World → (Nat → Prop) → Nat → Nat → List (κ × Int) → Prop} (hk : Keeps MA)
  {ty : TypeId} {base : Nat} {w w' : World} {S S' : Nat → Prop} {N M : Nat} {ls : List (List (κ × Int))} {v7 v8 : Value} {outs : List (An × Value)}
include hk

/-- All that the run rests on is as it was; S has grown. -/
theorem Run.keep (h : Run MA ty base w S N ls v7 outs v8) (hS : ∀ b, S b → S' b) (hlt : ∀ x, S' x → x < w'.heap.size) (hge : ∀ x, S' x → base ≤ x) (hsz : w.heap.size ≤ w'.heap.size) (hw : ∀ b, S b → w'.heap[b]? = w.heap[b]?)
    (h7 : ∀ k, v7.ownBlock = some k → w'.heap[k]? = w.heap[k]? ∧ ¬ S' k) (h8 : ∀ k, v8.ownBlock = some k → w'.heap[k]? = w.heap[k]? ∧ ¬ S' k) (hN : N ≤ M) : Run MA ty base w' S' M ls v7 outs v8 := by
  obtain ⟨ps, r1, r2, r3⟩ := h.row
  exact ⟨hlt, hge, Nat.le_trans h.big hsz, ⟨ps, r1, own_same r2 (fun k e => (h7 k e).1), fun j p l a b => hk _ _ _ _ _ _ _ _ (r3 j p l a b) hS hw hN⟩, own_same h.out (fun k e => (h8 k e).1), h.lists.keep hS hw, fun k e => (h7 k e).2, fun k e => (h8 k e).2, h.ne⟩

theorem Run.plus (h : Run MA ty base w S N ls v7 outs v8) (hB : Below w.heap.size w w') (hN : N ≤ M) : Run MA ty base w' (Plus S w w') M ls v7 outs v8 := by
  obtain ⟨ps, r1, r2, r3⟩ := h.row
  have l7 := r2.lt
  have l8 := h.out.lt
  refine h.keep hk (fun b hb => .inl hb) (fun x hx => ?_) (fun x hx => ?_) hB.size (fun b hb => hB.block b (h.lt b hb)) (fun k e => ⟨hB.block k (l7 k e).2, ?_⟩) (fun k e => ⟨hB.block k (l8 k e).2, ?_⟩) hN
  · rcases hx with hx | hx
    · exact Nat.lt_of_lt_of_le (h.lt x hx) hB.size
    · exact hx.2
  · rcases hx with hx | hx
    · exact h.ge x hx
    · exact Nat.le_trans h.big hx.1
  · rintro (hx | hx)
    · exact h.n7 k e hx
    · have := (l7 k e).2; omega
  · rintro (hx | hx)
    · exact h.n8 k e hx
    · have := (l8 k e).2; omega

theorem Run.grow (h : Run MA ty base w S N ls v7 outs v8) (hB : Below w.heap.size w w') : Run MA ty base w' S N ls v7 outs v8 := by
  obtain ⟨ps, r1, r2, r3⟩ := h.row
  exact h.keep hk (fun _ h => h) (fun x hx => Nat.lt_of_lt_of_le (h.lt x hx) hB.size) h.ge hB.size (fun b hb => hB.block b (h.lt b hb)) (fun k e => ⟨hB.block k (r2.lt k e).2, h.n7 k e⟩) (fun k e => ⟨hB.block k (h.out.lt k e).2, h.n8 k e⟩) (Nat.le_refl _)

theorem Run.upd {g : Nat} (h : Run MA ty base w S N ls v7 outs v8) (hU : Upd g w w') (hg : ¬ S g) (h7 : v7.ownBlock ≠ some g) (h8 : v8.ownBlock ≠ some g) : Run MA ty base w' S N ls v7 outs v8 :=
  h.keep hk (fun _ h => h) (fun x hx => by rw [hU.size]; exact h.lt x hx) h.ge (by rw [hU.size]; exact Nat.le_refl _) (fun b hb => hU.heap (fun e => hg (e ▸ hb))) (fun k e => ⟨hU.heap (fun e2 => h7 (e2 ▸ e)), h.n7 k e⟩) (fun k e => ⟨hU.heap (fun e2 => h8 (e2 ▸ e)), h.n8 k e⟩) (Nat.le_refl _)

/-- A further answer. -/
theorem Run.say (h : Run MA ty base w S N ls v7 outs v8) {v8' : Value} {x : An × Value} (hg : w.grownBy w' v8.ownBlock) (hm : Moved w v8 v8') (ho : w'.ownsRow base 92 4 v8' (outs.length + 1) (ancs outs ++ anc x)) (hx : RowS w S x.2 x.1.list.length (prs x.1.list)) :
    Run MA ty base w' S N ls v7 (outs ++ [x]) v8' := by
  obtain ⟨ps, r1, r2, r3⟩ := h.row
  have hsame : ∀ b, S b → w'.heap[b]? = w.heap[b]? := fun b hb => hg.block b (h.lt b hb) (fun e => h.n8 b e.symm hb)
  have h7 : ∀ k, v7.ownBlock = some k → w'.heap[k]? = w.heap[k]? := fun k e => hg.block k (r2.lt k e).2 (fun e2 => h.ne k e e2.symm)
  refine ⟨fun x hx => Nat.lt_of_lt_of_le (h.lt x hx) hg.size, h.ge, Nat.le_trans h.big hg.size, ⟨ps, r1, own_same r2 h7, fun j p l a b => hk _ _ _ _ _ _ _ _ (r3 j p l a b) (fun _ h => h) hsame (Nat.le_refl _)⟩, ?_, ?_, h.n7, fun k e => ?_, fun k e e2 => ?_⟩
  · rw [List.length_append]
    simp only [ancs, List.flatMap_append, List.flatMap_cons, List.flatMap_nil, List.append_nil]
    exact ho
  · intro y hy
    rcases List.mem_append.1 hy with hy | hy
    · exact (h.lists y hy).keep (fun _ h => h) hsame
    · simp only [List.mem_cons, List.not_mem_nil, or_false] at hy
      subst hy
      exact hx.keep (fun _ h => h) hsame
  · rcases hm k e with e | e
    · exact h.n8 k e
    · intro hs; have := h.lt k hs; omega
  · rcases hm k e2 with e3 | e3
    · exact h.ne k e e3
    · have := (r2.lt k e).2; omega

/-- A further version. -/
theorem Run.ver (h : Run MA ty base w S N ls v7 outs v8) {v7' : Value} {p : Nat} {l : List (κ × Int)} {ps : List Nat} (r1 : ps.length = ls.length) (r2 : w.ownsRow base ty 1 v7 ls.length (ps.map fun p => Value.pointer (some ⟨p, 0, none⟩)))
    (r3 : ∀ (j p : Nat) (l : List (κ × Int)), ps[j]? = some p → ls[j]? = some l → MA w S p N l) (hg : w.grownBy w' v7.ownBlock) (hm : Moved w v7 v7')
    (ho : w'.ownsRow base ty 1 v7' (ls.length + 1) ((ps.map fun p => Value.pointer (some ⟨p, 0, none⟩)) ++ [.pointer (some ⟨p, 0, none⟩)])) (hx : MA w S p N l) :
    Run MA ty base w' S N (ls ++ [l]) v7' outs v8 := by
  have hsame : ∀ b, S b → w'.heap[b]? = w.heap[b]? := fun b hb => hg.block b (h.lt b hb) (fun e => h.n7 b e.symm hb)
  have h8 : ∀ k, v8.ownBlock = some k → w'.heap[k]? = w.heap[k]? := fun k e => hg.block k (h.out.lt k e).2 (fun e2 => h.ne k e2.symm e)
  refine ⟨fun x hx => Nat.lt_of_lt_of_le (h.lt x hx) hg.size, h.ge, Nat.le_trans h.big hg.size, ⟨ps ++ [p], by simp [r1], ?_, fun j q m a b => ?_⟩, own_same h.out h8, h.lists.keep (fun _ h => h) hsame, fun k e => ?_, h.n8, fun k e e2 => ?_⟩
  · rw [List.length_append, List.map_append]
    exact ho
  · by_cases hj : j < ps.length
    · rw [List.getElem?_append_left hj] at a
      rw [List.getElem?_append_left (by omega)] at b
      exact hk _ _ _ _ _ _ _ _ (r3 j q m a b) (fun _ h => h) hsame (Nat.le_refl _)
    · have hj2 := (List.getElem?_eq_some_iff.1 a).1
      rw [List.length_append] at hj2
      simp only [List.length_cons, List.length_nil] at hj2
      have hj3 : j = ps.length := by omega
      subst hj3
      rw [List.getElem?_append_right (Nat.le_refl _), Nat.sub_self] at a
      rw [r1, List.getElem?_append_right (Nat.le_refl _), Nat.sub_self] at b
      simp only [List.getElem?_cons_zero, Option.some.injEq] at a b
      subst a
      subst b
      exact hk _ _ _ _ _ _ _ _ hx (fun _ h => h) hsame (Nat.le_refl _)
  · rcases hm k e with e | e
    · exact h.n7 k e
    · intro hs; have := h.lt k hs; omega
  · rcases hm k e with e3 | e3
    · exact h.ne k e3 e2
    · have := (h.out.lt k e2).2; omega

omit hk in
/-- What a run leaves. -/
theorem Run.done (h : Run MA ty base w S N ls v7 outs v8) {al : List An} (ha : outs.map (·.1) = al) : Answers base w v8 al := by
  refine ⟨outs, ha, own_rowS h.out (fun k e => (h.out.lt k e).1), h.lists.keep h.ge (fun _ _ => rfl)⟩
end
end Go.Proofs.YtfejflhgaphilaaGreatDoor

namespace Go.Proofs.YtfejflhgaphilaaGreatDoor
open Go.RowKit Go.Sort Lst

set_option maxHeartbeats 4000000 in
set_option maxRecDepth 100000 in
theorem drop_any (txt : Bool) (kk nn : Int) (L : List Pr) (k : Pr) (sl : Value) (base : Nat) (w : World) (hO : OrdOK kk nn) (hs : Srt (cmpP txt kk nn) L) (hL : ∀ p ∈ L, I64 p.key) (hk : I64 k.key) (hlen : L.length ≤ 900000)
    (hb : base ≤ w.heap.size) (hown : w.ownsRow base 49 3 sl L.length (prs L)) :
    Calls Tryz.prog 33 #[ordV kk nn, .bool txt, sl, k.v] w fun e w' => ∃ v', e = .returned v' ∧ w'.ownsRow base 49 3 v' (del (fP txt kk nn k) L).length (prs (del (fP txt kk nn k) L)) ∧ w.grownBy w' sl.ownBlock ∧ Moved w sl v' := by
  have hB := gNew2 w (.cells #[.int .u8 kk, .int .i64 nn] 23) (.cells #[.int .i64 k.key, .string k.text, .int .i64 k.val] 49)
  have HPLACE : Hid (∀ W, Below w.heap.size w W → Calls Tryz.prog 34 #[ordV kk nn, .bool txt, sl, k.v] W fun e w' => e = .returned (.tuple #[.int .i64 (pos (fP txt kk nn k) L), .bool (has (fP txt kk nn k) L)]) ∧ Below W.heap.size W w') :=
    fun W hW => place_any txt kk nn L k sl W hO hs hL hk (by omega) ((own_rowV hown).grow hW)
  have HT : Hid (has (fP txt kk nn k) L = true → pos (fP txt kk nn k) L < L.length ∧ del (fP txt kk nn k) L = L.take (pos (fP txt kk nn k) L) ++ L.drop (pos (fP txt kk nn k) L + 1)) := fun h => ⟨(has_true h).1, by rw [del, if_pos h]⟩
  have HF : Hid (has (fP txt kk nn k) L = false → del (fP txt kk nn k) L = L) := del_none
  have HOWN := Lib.hid hown
  clear hown hs hL hk hO
  generalize del (fP txt kk nn k) L = I at *
  generalize pos (fP txt kk nn k) L = P at *
  generalize has (fP txt kk nn k) L = H at *
  obtain ⟨kx, kt, kv⟩ := k
  simp only at hB HPLACE HT HF
  have q0 : ((w.alloc (.cells #[.int .u8 kk, .int .i64 nn] 23)).alloc (.cells #[.int .i64 kx, .string kt, .int .i64 kv] 49)).cell? ⟨w.heap.size, 0, none⟩ = some (.int .u8 kk) := by go_simp
  have q1 : ((w.alloc (.cells #[.int .u8 kk, .int .i64 nn] 23)).alloc (.cells #[.int .i64 kx, .string kt, .int .i64 kv] 49)).cell? ⟨w.heap.size, 1, none⟩ = some (.int .i64 nn) := by go_simp
  have q2 : ((w.alloc (.cells #[.int .u8 kk, .int .i64 nn] 23)).alloc (.cells #[.int .i64 kx, .string kt, .int .i64 kv] 49)).cell? ⟨w.heap.size + 1, 0, none⟩ = some (.int .i64 kx) := by go_simp
  have q3 : ((w.alloc (.cells #[.int .u8 kk, .int .i64 nn] 23)).alloc (.cells #[.int .i64 kx, .string kt, .int .i64 kv] 49)).cell? ⟨w.heap.size + 1, 1, none⟩ = some (.string kt) := by go_simp
  have q4 : ((w.alloc (.cells #[.int .u8 kk, .int .i64 nn] 23)).alloc (.cells #[.int .i64 kx, .string kt, .int .i64 kv] 49)).cell? ⟨w.heap.size + 1, 2, none⟩ = some (.int .i64 kv) := by go_simp
  have HC := Lib.hid (HPLACE.out _ hB)
  have HB := Lib.hid hB
  clear hB
  go_enter Tryz.func33, Tryz.ntmps33
  go_upto_region 1 with (fail)
  generalize ((w.alloc (.cells #[.int .u8 kk, .int .i64 nn] 23)).alloc (.cells #[.int .i64 kx, .string kt, .int .i64 kv] 49)) = wa at *
  obtain ⟨i0, hi, hz0, hz1, hz2⟩ := info_parts infoP
  cases H
  · have HI := Lib.hid (HF.out rfl)
    clear HT HF
    go_wp2_with (go_at_call 34; refine HC.out.mono ?_; rintro e w1 ⟨rfl, hB1⟩)
    go_ret
    rw [HI.out]
    exact ⟨_, rfl, HOWN.out.kept (below_by (g := none) (gTrans HB.out hB1)) (by cases sl.ownBlock <;> simp), below_by (gTrans HB.out hB1), fun k hk => .inl hk⟩
  · obtain ⟨hP, hI⟩ := HT.out rfl
    have HI := Lib.hid hI
    obtain ⟨g, cap, tl, rfl, hbg, hW, hc1, hc2, hc3⟩ := own_whole HOWN.out (by omega)
    have hPi : (P : Int) < (L.length : Int) := by omega
    have HW := Lib.hid hW
    have HC3 := Lib.hid hc3
    clear hI hW hc3 HF HT
    go_upto_region 3 with (go_at_call 34; refine HC.out.mono ?_; rintro e w1 ⟨rfl, hB1⟩)
    have hB1' := gTrans HB.out hB1
    have HW1 := Lib.hid (HW.out.grow hB1')
    have HB1 := Lib.hid hB1'
    obtain ⟨D, hD, rD⟩ := slice_from' (P := Tryz.prog) 38 49 3 Tryz.underlying38 (by kernel_rfl) g 0 L.length cap (P + 1) ((P : Int) + 1) (by omega) (by omega) hc1
    have rU := slice_upto (P := Tryz.prog) 38 49 3 Tryz.underlying38 (by kernel_rfl) g L.length cap P (P : Int) rfl (by omega)
    have HD := Lib.hid hD
    have hw1 : IntKind.i64.wrap ((P : Int) + 1) = (P : Int) + 1 := IntWalk.i64_in _ (by omega)
    have HNEWS : Hid (∀ j u, (prs (L.drop (P + 1)))[j]? = some u → w1.drew.cell? (D.add j) = some u) := by
      intro j u hj
      have hlt2 := (List.getElem?_eq_some_iff.1 hj).1
      rw [len_prs, List.length_drop] at hlt2
      rw [HD.out (by omega)]
      have hj2 : (prs L)[(P + 1) * 3 + j]? = some u := by
        have e := flat_drop len_prc L (P + 1)
        unfold prs at hj
        rw [← e, List.getElem?_drop] at hj
        exact hj
      have hlt3 := (List.getElem?_eq_some_iff.1 hj2).1
      have h := HW1.out.row ((P + 1) * 3 + j) u (by rw [List.getElem?_append_left hlt3]; exact hj2)
      rw [Addr.add_lit]
      rw [← Nat.add_assoc] at h
      exact h
    have HOP : Hid (w1.drew.ownsRow base 49 3 (.slice (some ⟨g, 0, none⟩) P cap) P (prs (L.take P))) := by
      have e : prs (L.take P) ++ (prs (L.drop P) ++ tl) = prs L ++ tl := by
        rw [← List.append_assoc, ← List.flatMap_append, List.take_append_drop]
      have hW2 : Whole w1.drew g (prs (L.take P) ++ (prs (L.drop P) ++ tl)) 49 := by rw [e]; exact HW1.out
      exact whole_own hbg hW2 (by rw [len_prs]; simp; omega) (by omega) hc2 (by rw [e]; exact HC3.out)
    have HLD : Hid ((prs (L.drop (P + 1))).length = (L.length - (P + 1)) * 3) := by show _ = _; rw [len_prs]; simp
    have HMX : Hid (P + (L.length - (P + 1)) ≤ maxLen) := by show _ ≤ _; simp only [maxLen]; omega
    have HBYT : Hid ((P + (L.length - (P + 1))) * 32 ≤ 140737488355328) := by show _ ≤ _; omega
    have HBASE : Hid (base ≤ w1.drew.heap.size) := Nat.le_trans hb hB1'.size
    clear hB1 hB1' hD q0 q1 q2 q3 q4
    refine wp_region_still_tail 7 (by kernel_rfl) (by kernel_rfl) ?_
    change wpStill _ _ w1.drew _ _ _
    simp only [List.take_succ_cons, List.take_zero, List.drop_succ_cons, List.drop_zero]
    repeat still_step
    clear hw1 rD rU
    refine wpStill_nil ?_
    refine wpList_append_moved (w := w1.drew) rfl _ _ 38 rfl base 49 i0 _ 3 32 Tryz.underlying38 hi hz0 hz1 hz2 rfl (by omega) (.slice (some ⟨g, 0, none⟩) P cap) P (prs (L.take P)) (by rfl) HOP.out D (L.length - (P + 1)) (cap - (P + 1)) (prs (L.drop (P + 1))) (by rfl) HLD.out HNEWS.out (oneP _) HMX.out HBYT.out HBASE.out ?_
    intro v2 w2 hown2 hg2 hm2
    have HO2 := Lib.hid hown2
    have HG2 := Lib.hid hg2
    have HM2 := Lib.hid hm2
    clear hown2 hg2 hm2
    go_wp2
    go_ret
    have hIl : I.length = P + (L.length - (P + 1)) := by rw [HI.out]; simp; omega
    have hIp : prs I = prs (L.take P) ++ prs (L.drop (P + 1)) := by rw [HI.out]; simp [prs, List.flatMap_append]
    refine ⟨_, rfl, ?_, grown_trans (below_by (below_drew HB1.out)) HG2.out, fun k hk => ?_⟩
    · rw [hIl, hIp]
      exact HO2.out
    · rcases HM2.out k hk with h | h
      · exact .inl h
      · exact .inr (Nat.le_trans HB1.out.size h)
end Go.Proofs.YtfejflhgaphilaaGreatDoor

namespace Go.Proofs.YtfejflhgaphilaaGreatDoor
open Go.RowKit Go.Sort Lst

theorem convOne (W : World) (d : UInt8) (g : Nat) (hg : g = W.heap.size) : (convert 181 9 (.slice (some ⟨g, 0, none⟩) 1 1)).run Tryz.prog (W.alloc (.cells #[.int .u8 (d.toNat : Int)] 5)) = .ok (.string ⟨#[d]⟩) (W.alloc (.cells #[.int .u8 (d.toNat : Int)] 5)) := by
  subst hg
  have h := run_convert_bytes_back (P := Tryz.prog) (W.alloc (.cells #[.int .u8 (d.toNat : Int)] 5)) 181 9 5 ⟨W.heap.size, 0, none⟩ 1 [d] Tryz.underlying181 Tryz.underlying5 Tryz.underlying9 (fun j hj => by
    simp only [List.length_cons, List.length_nil] at hj
    have : j = 0 := by omega
    subst this
    exact cell_new W _ 5)
  simpa using h

theorem decDigits_step {u0 u : Nat} {out : List UInt8} (h : Lib.decDigits u0 = Lib.decDigits u ++ out) (hu : ¬ u < 10) : Lib.decDigits u0 = Lib.decDigits (u / 10) ++ (UInt8.ofNat (48 + u % 10) :: out) := by
  rw [h, Lib.decDigits, dif_neg hu]
  simp
theorem decDigits_last {u0 u : Nat} {out : List UInt8} (h : Lib.decDigits u0 = Lib.decDigits u ++ out) (hu : u < 10) : Lib.decDigits u0 = UInt8.ofNat (48 + u % 10) :: out := by
  rw [h, Lib.decDigits_one hu, Nat.mod_eq_of_lt hu]
  simp

theorem len_decDigits {u : Nat} (h : u < 18446744073709551616) : (Lib.decDigits u).length ≤ 20 := by
  rw [Lib.decDigits_length]
  by_cases h0 : u = 0
  · subst h0; rw [Lib.nDigits_small (by decide)]; decide
  · obtain ⟨a, b⟩ := Lib.numDigits_eq u (by omega) h
    rw [← a]
    split <;> omega
theorem len_digits {n : Int} (hn : I64 n) : (digits n).size ≤ 21 := by
  unfold I64 at hn
  unfold digits Lib.itoa
  split
  · have := len_decDigits (u := n.natAbs) (by omega)
    simp [ByteArray.size]; omega
  · have := len_decDigits (u := n.toNat) (by omega)
    simp [ByteArray.size]; omega

set_option maxHeartbeats 4000000 in
set_option maxRecDepth 20000 in
theorem digits_any (n : Int) (hn : I64 n) (w : World) :
    Calls Tryz.prog 72 #[.int .i64 n] w fun e w' => e = .returned (.string (digits n)) ∧ Below w.heap.size w w' := by
  by_cases hneg : n < 0
  · obtain ⟨u0, hu0⟩ : ∃ u0 : Nat, u0 = n.natAbs := ⟨_, rfl⟩
    have hd : digits n = ⟨(45 :: Lib.decDigits u0).toArray⟩ := by unfold digits Lib.itoa; rw [if_pos hneg, hu0]
    have HD := Lib.hid hd
    have hu : u0 < 18446744073709551616 := by unfold I64 at hn; omega
    have hw0 : IntKind.u64.wrap (-IntKind.u64.wrap n) = (u0 : Int) := by
      unfold I64 at hn
      rw [IntKind.wrap_u64, IntKind.wrap_u64]; omega
    clear hd hn hu0
    go_enter Tryz.func72, Tryz.ntmps72
    go_upto_region 4 with (fail)
    go_loopg [3, 4] u0 (fun g s3 s4 wr => ∃ (u : Nat) (out : List UInt8), s3 = .int .u64 u ∧ s4 = .string ⟨out.toArray⟩ ∧ Lib.decDigits u0 = Lib.decDigits u ++ out ∧ u ≤ g ∧ u < 18446744073709551616 ∧ Below w.heap.size w wr)
    case atStart => exact ⟨u0, [], by first | rfl | rw [hw0], rfl, by simp, Nat.le_refl _, hu, Below.refl _ _⟩
    case round =>
      obtain ⟨u, out, rfl, rfl, hE, hug, hu2, hB⟩ := hrel
      have HB := Lib.hid hB
      obtain ⟨r, hr⟩ : ∃ r : Nat, r = u % 10 := ⟨_, rfl⟩
      obtain ⟨q, hq⟩ : ∃ q : Nat, q = u / 10 := ⟨_, rfl⟩
      obtain ⟨d, hd⟩ : ∃ d : UInt8, d = UInt8.ofNat (48 + r) := ⟨_, rfl⟩
      have hd0 : (u : Int) % 10 = (r : Int) := by omega
      have hd1 : IntKind.u64.wrap (r : Int) = (r : Int) := IntWalk.u64_in _ (by omega)
      have hd2 : IntKind.u64.wrap (48 + (r : Int)) = 48 + (r : Int) := IntWalk.u64_in _ (by omega)
      have hd3 : IntKind.u8.wrap (48 + (r : Int)) = (d.toNat : Int) := by
        have e : d.toNat = 48 + r := by rw [hd, UInt8.toNat_ofNat']; omega
        rw [IntWalk.u8_in _ (by omega), e]; omega
      have hd5 : (u : Int) / 10 = (q : Int) := by omega
      have hd4 : IntKind.u64.wrap (q : Int) = (q : Int) := IntWalk.u64_in _ (by omega)
      have kc0 := convOne wr d wr.heap.size rfl
      have hlen := len_decDigits hu
      rw [hE, List.length_append] at hlen
      obtain ⟨db, hdb⟩ : ∃ db : ByteArray, db = ⟨#[d]⟩ := ⟨_, rfl⟩
      obtain ⟨ob, hob⟩ : ∃ ob : ByteArray, ob = ⟨out.toArray⟩ := ⟨_, rfl⟩
      have hsum : db.size + ob.size ≤ 9223372036854775807 := by rw [hdb, hob]; simp [ByteArray.size]; omega
      have hcat := fun W => run_string_add_sum (P := Tryz.prog) W db ob hsum
      have hcat' : ¬ (db.size + ob.size > 9223372036854775807) := by omega
      have HCAT : Hid (db ++ ob = ⟨(d :: out).toArray⟩) := by show _ = _; rw [hdb, hob]; simp [ByteArray.mk_append_mk, ← List.toArray_cons]
      rw [← hdb] at kc0
      rw [← hob]
      have kc := kc0
      clear kc0 hsum hlen hdb hob
      have hgn := gNew wr (.cells #[.int .u8 (d.toNat : Int)] 5)
      have HGN := Lib.hid (gTrans hB hgn)
      have HU := Lib.hid (And.intro hug hu2)
      have hlast : Hid (u < 10 → Lib.decDigits u0 = d :: out) := fun h => by rw [hd, hr]; exact decDigits_last hE h
      have hstep : Hid (¬ u < 10 → Lib.decDigits u0 = Lib.decDigits q ++ (d :: out)) := fun h => by rw [hd, hr, hq]; exact decDigits_step hE h
      have HQ := Lib.hid hq
      clear hE hB hgn hr hd hq hug hu2
      by_cases h10 : u < 10
      · have HL := Lib.hid (hlast.out h10)
        have hq : ((q : Int) == 0) = true := by have := HQ.out; rw [beq_iff_eq]; omega
        clear h10 hlast hstep
        go_upto_region 8 with (fail)
        have hoo : (db ++ ob).size ≤ 1000 := by
          rw [HCAT.out]
          have := len_decDigits hu
          rw [HL.out] at this
          simpa [ByteArray.size] using (by omega : (d :: out).length ≤ 1000)
        generalize db ++ ob = oo at *
        have hs2 := fun W => run_string_add_sum (P := Tryz.prog) W ⟨#[45]⟩ oo (by have e : (⟨#[45]⟩ : ByteArray).size = 1 := rfl; omega)
        have hs3 : ¬ ((⟨#[45]⟩ : ByteArray).size + oo.size > 9223372036854775807) := by have e : (⟨#[45]⟩ : ByteArray).size = 1 := rfl; omega
        have hs4 : ¬ (9223372036854775807 < 1 + oo.size) := by omega
        go_wp2
        go_ret
        exact ⟨by rw [HD.out, HL.out, HCAT.out, show (⟨#[45]⟩ : ByteArray) = ⟨[45].toArray⟩ from rfl, ByteArray.mk_append_mk]; rfl, HGN.out⟩
      · have HL := Lib.hid (hstep.out h10)
        have hq : ((q : Int) == 0) = false := by have := HQ.out; rw [beq_eq_false_iff_ne]; omega
        have HLT : Hid (q < u) := by have := HQ.out; show _ < _; omega
        clear h10 hlast hstep
        go_wp2
        go_roundg q
        case measure => have := HU.out; have := HLT.out; omega
        case rel => exact ⟨q, d :: out, rfl, by first | rfl | rw [HCAT.out], HL.out, Nat.le_refl _, by have := HU.out; have := HLT.out; omega, HGN.out⟩
  · obtain ⟨u0, rfl⟩ : ∃ u0 : Nat, n = (u0 : Int) := ⟨n.toNat, by omega⟩
    have hd : digits (u0 : Int) = ⟨(Lib.decDigits u0).toArray⟩ := by unfold digits Lib.itoa; rw [if_neg hneg, Int.toNat_natCast]
    have HD := Lib.hid hd
    have hu : u0 < 18446744073709551616 := by unfold I64 at hn; omega
    have hw0 : IntKind.u64.wrap (u0 : Int) = (u0 : Int) := IntWalk.u64_in _ (by omega)
    clear hd hn
    go_enter Tryz.func72, Tryz.ntmps72
    go_upto_region 4 with (fail)
    go_loopg [3, 4] u0 (fun g s3 s4 wr => ∃ (u : Nat) (out : List UInt8), s3 = .int .u64 u ∧ s4 = .string ⟨out.toArray⟩ ∧ Lib.decDigits u0 = Lib.decDigits u ++ out ∧ u ≤ g ∧ u < 18446744073709551616 ∧ Below w.heap.size w wr)
    case atStart => exact ⟨u0, [], rfl, rfl, by simp, Nat.le_refl _, hu, Below.refl _ _⟩
    case round =>
      obtain ⟨u, out, rfl, rfl, hE, hug, hu2, hB⟩ := hrel
      have HB := Lib.hid hB
      obtain ⟨r, hr⟩ : ∃ r : Nat, r = u % 10 := ⟨_, rfl⟩
      obtain ⟨q, hq⟩ : ∃ q : Nat, q = u / 10 := ⟨_, rfl⟩
      obtain ⟨d, hd⟩ : ∃ d : UInt8, d = UInt8.ofNat (48 + r) := ⟨_, rfl⟩
      have hd0 : (u : Int) % 10 = (r : Int) := by omega
      have hd1 : IntKind.u64.wrap (r : Int) = (r : Int) := IntWalk.u64_in _ (by omega)
      have hd2 : IntKind.u64.wrap (48 + (r : Int)) = 48 + (r : Int) := IntWalk.u64_in _ (by omega)
      have hd3 : IntKind.u8.wrap (48 + (r : Int)) = (d.toNat : Int) := by
        have e : d.toNat = 48 + r := by rw [hd, UInt8.toNat_ofNat']; omega
        rw [IntWalk.u8_in _ (by omega), e]; omega
      have hd5 : (u : Int) / 10 = (q : Int) := by omega
      have hd4 : IntKind.u64.wrap (q : Int) = (q : Int) := IntWalk.u64_in _ (by omega)
      have kc0 := convOne wr d wr.heap.size rfl
      have hlen := len_decDigits hu
      rw [hE, List.length_append] at hlen
      obtain ⟨db, hdb⟩ : ∃ db : ByteArray, db = ⟨#[d]⟩ := ⟨_, rfl⟩
      obtain ⟨ob, hob⟩ : ∃ ob : ByteArray, ob = ⟨out.toArray⟩ := ⟨_, rfl⟩
      have hsum : db.size + ob.size ≤ 9223372036854775807 := by rw [hdb, hob]; simp [ByteArray.size]; omega
      have hcat := fun W => run_string_add_sum (P := Tryz.prog) W db ob hsum
      have hcat' : ¬ (db.size + ob.size > 9223372036854775807) := by omega
      have HCAT : Hid (db ++ ob = ⟨(d :: out).toArray⟩) := by show _ = _; rw [hdb, hob]; simp [ByteArray.mk_append_mk, ← List.toArray_cons]
      rw [← hdb] at kc0
      rw [← hob]
      have kc := kc0
      clear kc0 hsum hlen hdb hob
      have hgn := gNew wr (.cells #[.int .u8 (d.toNat : Int)] 5)
      have HGN := Lib.hid (gTrans hB hgn)
      have HU := Lib.hid (And.intro hug hu2)
      have hlast : Hid (u < 10 → Lib.decDigits u0 = d :: out) := fun h => by rw [hd, hr]; exact decDigits_last hE h
      have hstep : Hid (¬ u < 10 → Lib.decDigits u0 = Lib.decDigits q ++ (d :: out)) := fun h => by rw [hd, hr, hq]; exact decDigits_step hE h
      have HQ := Lib.hid hq
      clear hE hB hgn hr hd hq hug hu2
      by_cases h10 : u < 10
      · have HL := Lib.hid (hlast.out h10)
        have hq : ((q : Int) == 0) = true := by have := HQ.out; rw [beq_iff_eq]; omega
        clear h10 hlast hstep
        go_wp2
        go_ret
        exact ⟨by rw [HD.out, HL.out]; simp [HCAT.out], HGN.out⟩
      · have HL := Lib.hid (hstep.out h10)
        have hq : ((q : Int) == 0) = false := by have := HQ.out; rw [beq_eq_false_iff_ne]; omega
        have HLT : Hid (q < u) := by have := HQ.out; show _ < _; omega
        clear h10 hlast hstep
        go_wp2
        go_roundg q
        case measure => have := HU.out; have := HLT.out; omega
        case rel => exact ⟨q, d :: out, rfl, by first | rfl | rw [HCAT.out], HL.out, Nat.le_refl _, by have := HU.out; have := HLT.out; omega, HGN.out⟩
end Go.Proofs.YtfejflhgaphilaaGreatDoor

namespace Go.Proofs.YtfejflhgaphilaaGreatDoor
open Go.RowKit Go.Sort Lst

theorem i64_wrap (x : Int) : I64 (IntKind.i64.wrap x) := by
  rw [IntKind.wrap_i64]; unfold I64; omega

theorem rawMany (txt : Bool) {op : Int} (h : op = 5 ∨ op = 6) (sa sk : Int) (st : ByteArray) (sv : Int) (c : Nat) (sb : Int) :
    rawKeys txt ⟨op, sa, sk, st, sv, c, sb⟩ = (List.range c).map (manyP txt ⟨op, sa, sk, st, sv, c, sb⟩) := by
  unfold rawKeys; rw [if_pos h, Int.toNat_natCast]
theorem rawOne (txt : Bool) {op : Int} (h : ¬ (op = 5 ∨ op = 6)) (sa sk : Int) (st : ByteArray) (sv sc : Int) (sb : Int) : rawKeys txt ⟨op, sa, sk, st, sv, sc, sb⟩ = [keyP txt ⟨sk, st, sv⟩] := by
  unfold rawKeys; rw [if_neg h]

set_option maxHeartbeats 8000000 in
set_option maxRecDepth 100000 in
theorem keys_any (txt : Bool) (s : St) (w : World) (hs : StOK s) :
    Calls Tryz.prog 31 #[.bool txt, .agg s.cells.toArray] w fun e w' => ∃ v', e = .returned v' ∧ w'.ownsRow w.heap.size 49 3 v' (rawKeys txt s).length (prs (rawKeys txt s)) ∧ Below w.heap.size w w' := by
  obtain ⟨op, sa, sk, st, sv, sc, sb⟩ := s
  obtain ⟨hlo, hhi, _, hkey, hval, hby, hcl, hch, htx⟩ := hs
  dsimp only at hlo hhi hkey hval hby hcl hch htx
  obtain ⟨c, rfl⟩ : ∃ c : Nat, sc = (c : Int) := ⟨sc.toNat, by omega⟩
  obtain ⟨i0, hi0, hz0, hz1, hz2⟩ := info_parts infoP
  have hB := gNew w (.cells #[.int .u8 op, .int .i64 sa, .int .i64 sk, .string st, .int .i64 sv, .int .i64 c, .int .i64 sb] 64)
  have hbox := box_news w #[.int .u8 op, .int .i64 sa, .int .i64 sk, .string st, .int .i64 sv, .int .i64 c, .int .i64 sb] 64
  have c0 := hbox.cell (j := 0) rfl
  have c2 := hbox.cell (j := 2) rfl
  have c3 := hbox.cell (j := 3) rfl
  have c4 := hbox.cell (j := 4) rfl
  have c5 := hbox.cell (j := 5) rfl
  have c6 := hbox.cell (j := 6) rfl
  have hsz : (w.alloc (.cells #[.int .u8 op, .int .i64 sa, .int .i64 sk, .string st, .int .i64 sv, .int .i64 c, .int .i64 sb] 64)).heap.size = w.heap.size + 1 := alloc_sz _ _
  have HSZ := Lib.hid hsz
  have HB := Lib.hid hB
  clear hbox hsz hB
  by_cases h56 : op = 5 ∨ op = 6
  · have HRK := Lib.hid (rawMany txt h56 sa sk st sv c sb)
    have HCS := Lib.hid (And.intro c2 (And.intro c3 (And.intro c4 c6)))
    generalize hmp : manyP txt ⟨op, sa, sk, st, sv, c, sb⟩ = mp at *
    have HMP : Hid (∀ i : Nat, mp i = if txt = true then ⟨0, st ++ digits (IntKind.i64.wrap (sk + IntKind.i64.wrap (i * sb))), IntKind.i64.wrap (sv + i)⟩ else ⟨IntKind.i64.wrap (sk + IntKind.i64.wrap (i * sb)), ⟨#[]⟩, IntKind.i64.wrap (sv + i)⟩) := by
      intro i; rw [← hmp]; rfl
    clear hmp
    rcases h56 with rfl | rfl
    all_goals
      go_enter Tryz.func31, Tryz.ntmps31
      go_upto_region 7 with (fail)
      generalize w.alloc _ = wa at *
      clear c0 c2 c3 c4 c5 c6
      go_loopg [5, 31] c (fun g s5 s31 wr => ∃ i : Nat, i + g = c ∧ s31 = .int .i64 i ∧ wr.ownsRow (w.heap.size + 1) 49 3 s5 i (prs ((List.range i).map mp)) ∧ Below (w.heap.size + 1) wa wr)
      case atStart => exact ⟨0, by omega, rfl, World.ownsRow_nil _ _ _ _, Below.refl _ _⟩
      case round =>
        obtain ⟨i, hig, rfl, hown, hBr⟩ := hrel
        have hlt' : i < c ∨ i = c := by omega
        rcases hlt' with hlt | rfl
        · obtain ⟨c2, c3, c4, c6⟩ := HCS.out
          have r2 := cell_block (hBr.block w.heap.size (Nat.lt_succ_self _)) c2
          have r3 := cell_block (hBr.block w.heap.size (Nat.lt_succ_self _)) c3
          have r4 := cell_block (hBr.block w.heap.size (Nat.lt_succ_self _)) c4
          have r6 := cell_block (hBr.block w.heap.size (Nat.lt_succ_self _)) c6
          have hii : (i : Int) < (c : Int) := by omega
          have HIG := Lib.hid hig
          have HOWN := Lib.hid hown
          have HBR := Lib.hid hBr
          have hwr : w.heap.size + 1 ≤ wr.heap.size := by have := hBr.size; have := HSZ.out; omega
          have HWR := Lib.hid hwr
          have HMX : Hid (i + 1 ≤ maxLen) := by show _ ≤ _; simp only [maxLen]; omega
          have HBYT : Hid ((i + 1) * 32 ≤ 140737488355328) := by show _ ≤ _; omega
          obtain ⟨a1, ha1⟩ : ∃ a1 : Int, a1 = IntKind.i64.wrap (i * sb) := ⟨_, rfl⟩
          obtain ⟨a2, ha2⟩ : ∃ a2 : Int, a2 = IntKind.i64.wrap (sk + a1) := ⟨_, rfl⟩
          obtain ⟨a3, ha3⟩ : ∃ a3 : Int, a3 = IntKind.i64.wrap (sv + i) := ⟨_, rfl⟩
          have hI2 : I64 a2 := by rw [ha2]; exact i64_wrap _
          have HI2 := Lib.hid hI2
          have hmi := HMP.out i
          rw [← ha1, ← ha2, ← ha3] at hmi
          have hw1 : IntKind.i64.wrap (i * sb) = a1 := ha1.symm
          have hw2 : IntKind.i64.wrap (sk + a1) = a2 := ha2.symm
          have hw3 : IntKind.i64.wrap (sv + i) = a3 := ha3.symm
          have hw1' : wrap64 (i * sb) = a1 := by rw [← hw1, IntWalk.i64_left]
          have hw2' : wrap64 (sk + a1) = a2 := by rw [← hw2, IntWalk.i64_left]
          have hw3' : wrap64 (sv + i) = a3 := by rw [← hw3, IntWalk.i64_left]
          have HMI := Lib.hid hmi
          clear hig hown hBr hwr c2 c3 c4 c6 ha1 ha2 ha3 hI2 hmi
          cases txt
          · have hm : mp i = ⟨a2, ⟨#[]⟩, a3⟩ := HMI.out
            have HM := Lib.hid hm
            have hgn := gNew wr (.cells #[.int .i64 (a2), .string ⟨#[]⟩, .int .i64 (a3)] 49)
            have HN := Lib.hid (news_of (box_news wr #[.int .i64 (a2), .string ⟨#[]⟩, .int .i64 (a3)] 49))
            have HO := Lib.hid (HOWN.out.kept (below_by (g := none) hgn) (by cases Value.ownBlock _ <;> simp))
            have HB7 := Lib.hid (HBR.out.trans (hgn.mono HWR.out))
            have HBASE := Lib.hid (Nat.le_trans HWR.out hgn.size)
            have HONE : Hid (∀ u ∈ Pr.cells ⟨a2, ⟨#[]⟩, a3⟩, u.oneCell' = true) := oneC _
            clear hm hgn
            go_wp2_with ((with_reducible refine at_slot 63 ?_); refine wpList_append_moved _ rfl _ _ 38 rfl (w.heap.size + 1) 49 i0 _ 3 32 Tryz.underlying38 hi0 hz0 hz1 hz2 rfl (by omega) _ i (prs ((List.range i).map mp)) (by rfl) HO.out ⟨wr.heap.size, 0, none⟩ 1 1 (Pr.cells ⟨a2, ⟨#[]⟩, a3⟩) (by rfl) rfl HN.out HONE.out HMX.out HBYT.out HBASE.out ?_; intro v3 w3 hown3 hg3 hm3)
            have HLT := Lib.hid HO.out.lt
            go_roundg (gk - 1)
            case measure => have := HIG.out; omega
            case rel =>
              refine ⟨i + 1, by have := HIG.out; omega, by simp, ?_, HB7.out.grown hg3 HBASE.out (fun k hk => (HLT.out k hk).1)⟩
              rw [List.range_succ, List.map_append]
              simp only [prs, List.flatMap_append, List.map_cons, List.map_nil, List.flatMap_cons, List.flatMap_nil, List.append_nil]
              rw [HM.out]
              exact hown3
          · have hm : mp i = ⟨0, st ++ digits a2, a3⟩ := HMI.out
            have hdl := len_digits HI2.out
            have HDIG := Lib.hid (fun W => digits_any a2 HI2.out W)
            generalize digits a2 = dg at *
            have hcat := fun W => run_string_add_sum (P := Tryz.prog) W st dg (by omega)
            have hcat' : ¬ (st.size + dg.size > 9223372036854775807) := by omega
            have HM := Lib.hid hm
            have HONE : Hid (∀ u ∈ Pr.cells ⟨0, st ++ dg, a3⟩, u.oneCell' = true) := oneC _
            clear hm hdl
            go_upto_region 11 with (fail)
            go_region_held3 (fun W : World => W.cell? ⟨w.heap.size, 3, none⟩ = some (.string st) ∧ W.cell? ⟨w.heap.size, 4, none⟩ = some (.int .i64 sv))
              (first | exact ⟨r3, r4⟩ | exact K5.out | exact K6.out | exact K7.out)
              ((first | (go_at_call 72; refine (HDIG.out _).mono ?_; rintro e w5 ⟨rfl, hB5⟩; have hb5 := gTrans (below_drew (gRefl wr)) hB5; have K5 := Lib.hid (And.intro (gCell hb5 r3) (gCell hb5 r4)); have hgn := gNew w5 (.cells #[.int .i64 0, .string (st ++ dg), .int .i64 (a3)] 49); have hb6 := gTrans hb5 hgn; have K6 := Lib.hid (And.intro (gCell hb6 r3) (gCell hb6 r4)); have HN := Lib.hid (news_of (box_news w5 #[.int .i64 0, .string (st ++ dg), .int .i64 (a3)] 49)); have HO := Lib.hid (HOWN.out.kept (below_by (g := none) hb6) (by cases Value.ownBlock _ <;> simp)); have HB6 := Lib.hid hb6; have HBASE := Lib.hid (Nat.le_trans HWR.out hb6.size); clear hB5 hb5 hgn hb6) | (rw [if_pos (by rfl)]; refine wp_append_moved _ _ 38 rfl (w.heap.size + 1) 49 i0 _ 3 32 Tryz.underlying38 hi0 hz0 hz1 hz2 rfl (by omega) _ i (prs ((List.range i).map mp)) (by rfl) HO.out ⟨w5.heap.size, 0, none⟩ 1 1 (Pr.cells ⟨0, st ++ dg, a3⟩) (by rfl) rfl HN.out HONE.out HMX.out HBYT.out HBASE.out ?_; intro v3 w3 hown3 hg3 hm3; have HLT := Lib.hid HO.out.lt; have hne : some w.heap.size ≠ Value.ownBlock _ := (fun e => by have := (HLT.out _ e.symm).1; omega); have K7 := Lib.hid (And.intro (hg3.cell K6.out.1 hne) (hg3.cell K6.out.2 hne)); clear hne)))
            go_wp2
            go_roundg (gk - 1)
            case measure => have := HIG.out; omega
            case rel =>
              refine ⟨i + 1, by have := HIG.out; omega, by simp, ?_, (HBR.out.trans (HB6.out.mono HWR.out)).grown hg3 HBASE.out (fun k hk => (HLT.out k hk).1)⟩
              rw [List.range_succ, List.map_append]
              simp only [prs, List.flatMap_append, List.map_cons, List.map_nil, List.flatMap_cons, List.flatMap_nil, List.append_nil]
              rw [HM.out]
              exact hown3
        · have HO := Lib.hid hown
          have HB2 := Lib.hid (HB.out.trans (hBr.mono (Nat.le_succ _)))
          clear hown hBr
          go_wp2
          go_ret
          rw [HRK.out]
          have e : ((List.range i).map mp).length = i := by simp
          refine ⟨_, rfl, ?_, HB2.out⟩
          rw [e]
          exact own_base HO.out (Nat.le_succ _)
  · have HRK := Lib.hid (rawOne txt h56 sa sk st sv c sb)
    have h5 : (op == 5) = false := beq_eq_false_iff_ne.2 (fun h => h56 (.inl h))
    have h6 : (op == 6) = false := beq_eq_false_iff_ne.2 (fun h => h56 (.inr h))
    have h5' : (op != 5) = true := bne_iff_ne.2 (fun h => h56 (.inl h))
    have h6' : (op != 6) = true := bne_iff_ne.2 (fun h => h56 (.inr h))
    clear h56
    cases txt
    · go_enter Tryz.func31, Tryz.ntmps31
      go_wp2
      go_ret
      rw [HRK.out]
      exact ⟨_, rfl, whole_own (tl := []) (by omega) (box2 w (.cells #[.int .u8 op, .int .i64 sa, .int .i64 sk, .string st, .int .i64 sv, .int .i64 c, .int .i64 sb] 64) #[.int .i64 sk, .string ⟨#[]⟩, .int .i64 sv] 49) rfl (Nat.le_refl _) (by simp [maxLen]) rfl, gTrans HB.out (gNew _ _)⟩
    · go_enter Tryz.func31, Tryz.ntmps31
      go_wp2
      go_ret
      rw [HRK.out]
      exact ⟨_, rfl, whole_own (tl := []) (by omega) (box2 w (.cells #[.int .u8 op, .int .i64 sa, .int .i64 sk, .string st, .int .i64 sv, .int .i64 c, .int .i64 sb] 64) #[.int .i64 0, .string st, .int .i64 sv] 49) rfl (Nat.le_refl _) (by simp [maxLen]) rfl, gTrans HB.out (gNew _ _)⟩
end Go.Proofs.YtfejflhgaphilaaGreatDoor

namespace Go.Proofs.YtfejflhgaphilaaGreatDoor
open Go.RowKit Go.Sort Lst

/-- v holds the pairs l in a block of S: nil, or a slice that begins where its block begins. -/
def Ver (w : World) (S : Nat → Prop) (v : Value) (l : List Pr) : Prop :=
  (v = .slice none 0 0 ∧ l = []) ∨ ∃ g cap, v = .slice (some ⟨g, 0, none⟩) l.length cap ∧ S g ∧ l.length ≤ cap ∧ Row w g 0 (prs l)

theorem Ver.rowS {w : World} {S : Nat → Prop} {v : Value} {l : List Pr} (h : Ver w S v l) : RowS w S v l.length (prs l) := by
  rcases h with ⟨rfl, rfl⟩ | ⟨g, cap, rfl, hs, hc, hr⟩
  · exact ⟨none, 0, rfl, Nat.le_refl _, fun h => absurd h (Nat.lt_irrefl _)⟩
  · exact ⟨_, cap, rfl, hc, fun _ => ⟨g, 0, rfl, hs, hr⟩⟩
theorem Ver.keep {w w' : World} {S S' : Nat → Prop} {v : Value} {l : List Pr} (h : Ver w S v l) (hS : ∀ b, S b → S' b) (hw : ∀ b, S b → w'.heap[b]? = w.heap[b]?) : Ver w' S' v l :=
  h.imp id fun ⟨g, cap, h1, h2, h3, h4⟩ => ⟨g, cap, h1, hS g h2, h3, h4.of_block (hw g h2)⟩
theorem Ver.one {w : World} {S : Nat → Prop} {v : Value} {l : List Pr} (h : Ver w S v l) : v.oneCell' = true := by
  rcases h with ⟨rfl, rfl⟩ | ⟨g, cap, rfl, hs, hc, hr⟩ <;> rfl
theorem Ver.is {w : World} {S : Nat → Prop} {v : Value} {l : List Pr} (h : Ver w S v l) : ∃ a c, v = .slice a l.length c := by
  rcases h with ⟨rfl, rfl⟩ | ⟨g, cap, rfl, hs, hc, hr⟩
  · exact ⟨none, 0, rfl⟩
  · exact ⟨_, cap, rfl⟩
theorem own_ver {w : World} {base : Nat} {e : TypeId} {v : Value} {l : List Pr} (h : w.ownsRow base e 3 v l.length (prs l)) {S : Nat → Prop} (hS : ∀ k, v.ownBlock = some k → S k) : Ver w S v l := by
  rcases h.2 with ⟨rfl, h0⟩ | ⟨g, cap, cur, rfl, hb, hg, hc, _⟩
  · exact .inl ⟨rfl, List.eq_nil_of_length_eq_zero h0⟩
  · refine .inr ⟨g, cap, rfl, hS g rfl, hc, fun j u hj => ?_⟩
    have := h.cells (g := g) rfl j u hj
    rw [Addr.add_lit] at this
    exact this

section
variable {P : Program} (w : World)
/-- 'append(s, x...)', x nil or a slice at some place. -/
theorem wpList_append_src {ops : Array Oper} {rest : List Oper} {o : Oper} {a : Act} {Q : Exit → Act → World → Prop} (hgd : o.guard = none) (s x : Operand) (t : TypeId)
    (ho : o.op = .call { callee := .builtin .append, args := #[s, x], argTypes := #[t, t] })
    (base : Nat) (e : TypeId) (i : TypeInfo) (z : Value) (size bytes : Nat) (ht : P.underlying t = some (.slice e)) (hi : P.info? e = some i) (hz : i.zero = some z)
    (hsize : i.size = size) (hby : i.bytes = bytes) (hzs : z.cells.size = size) (hsz : 0 < size)
    (v : Value) (n : Nat) (xs : List Value) (hs : a.eval s = v) (hown : w.ownsRow base e size v n xs)
    (xv : Value) (m : Nat) (news : List Value) (hx : a.eval x = xv) (hl : news.length = m * size) (hsrc : xv = .slice none 0 0 ∧ m = 0 ∨ ∃ ad c, xv = .slice (some ad) m c ∧ ∀ j u, news[j]? = some u → w.cell? (ad.add j) = some u) (h1 : ∀ u ∈ news, u.oneCell' = true)
    (h63 : n + m ≤ maxLen) (hbytes : (n + m) * bytes ≤ 140737488355328) (hbase : base ≤ w.heap.size)
    (h : ∀ v' w', w'.ownsRow base e size v' (n + m) (xs ++ news) → w.grownBy w' v.ownBlock → Moved w v v' → wpList P ops Q rest (a.put o.dst v') w') : wpList P ops Q (o :: rest) a w := by
  rcases hsrc with ⟨hxv, rfl⟩ | ⟨ad, c, hxv, hnews⟩
  · have hn : news = [] := List.eq_nil_of_length_eq_zero (by simpa using hl)
    subst hn
    refine wpList_append_own_none hgd s x t ho base e i size ht hi v n xs hs hown (hx.trans hxv) ?_
    exact h v w (by simpa using hown) (World.grownBy.refl _ _) (fun k hk => .inl hk)
  · exact wpList_append_moved w hgd s x t ho base e i z size bytes ht hi hz hsize hby hzs hsz v n xs hs hown ad m c news (hx.trans hxv) hl hnews h1 h63 hbytes hbase h
end

theorem Ver.src {w : World} {S : Nat → Prop} {v : Value} {l : List Pr} (h : Ver w S v l) : v = .slice none 0 0 ∧ l.length = 0 ∨ ∃ ad c, v = .slice (some ad) l.length c ∧ ∀ j u, (prs l)[j]? = some u → w.cell? (ad.add j) = some u := by
  rcases h with ⟨rfl, rfl⟩ | ⟨g, cap, rfl, hs, hc, hr⟩
  · exact .inl ⟨rfl, rfl⟩
  · refine .inr ⟨_, cap, rfl, fun j u hj => ?_⟩
    have := hr j u hj
    rw [Addr.add_lit]
    exact this

/-- Versions: a row of slices; answers; S: the blocks that stay. -/
structure SRun (base : Nat) (w : World) (S : Nat → Prop) (ls : List (List Pr)) (v9 : Value) (outs : List (An × Value)) (v10 : Value) : Prop where
  lt : ∀ x, S x → x < w.heap.size
  ge : ∀ x, S x → base ≤ x
  big : base ≤ w.heap.size
  row : ∃ ps : List Value, ps.length = ls.length ∧ w.ownsRow base 38 1 v9 ls.length ps ∧ ∀ (j : Nat) (v : Value) (l : List Pr), ps[j]? = some v → ls[j]? = some l → Ver w S v l
  out : w.ownsRow base 94 4 v10 outs.length (ancs outs)
  lists : Lists w S outs
  n9 : ∀ k, v9.ownBlock = some k → ¬ S k
  n10 : ∀ k, v10.ownBlock = some k → ¬ S k
  ne : ∀ k, v9.ownBlock = some k → v10.ownBlock ≠ some k

section
variable {base : Nat} {w w' : World} {S S' : Nat → Prop} {ls : List (List Pr)} {v9 v10 : Value} {outs : List (An × Value)}

theorem SRun.keep (h : SRun base w S ls v9 outs v10) (hS : ∀ b, S b → S' b) (hlt : ∀ x, S' x → x < w'.heap.size) (hge : ∀ x, S' x → base ≤ x) (hsz : w.heap.size ≤ w'.heap.size) (hw : ∀ b, S b → w'.heap[b]? = w.heap[b]?)
    (h7 : ∀ k, v9.ownBlock = some k → w'.heap[k]? = w.heap[k]? ∧ ¬ S' k) (h8 : ∀ k, v10.ownBlock = some k → w'.heap[k]? = w.heap[k]? ∧ ¬ S' k) : SRun base w' S' ls v9 outs v10 := by
  obtain ⟨ps, r1, r2, r3⟩ := h.row
  exact ⟨hlt, hge, Nat.le_trans h.big hsz, ⟨ps, r1, own_same r2 (fun k e => (h7 k e).1), fun j p l a b => (r3 j p l a b).keep hS hw⟩, own_same h.out (fun k e => (h8 k e).1), h.lists.keep hS hw, fun k e => (h7 k e).2, fun k e => (h8 k e).2, h.ne⟩

theorem SRun.plus (h : SRun base w S ls v9 outs v10) (hB : Below w.heap.size w w') : SRun base w' (Plus S w w') ls v9 outs v10 := by
  obtain ⟨ps, r1, r2, r3⟩ := h.row
  have l7 := r2.lt
  have l8 := h.out.lt
  refine h.keep (fun b hb => .inl hb) (fun x hx => ?_) (fun x hx => ?_) hB.size (fun b hb => hB.block b (h.lt b hb)) (fun k e => ⟨hB.block k (l7 k e).2, ?_⟩) (fun k e => ⟨hB.block k (l8 k e).2, ?_⟩)
  · rcases hx with hx | hx
    · exact Nat.lt_of_lt_of_le (h.lt x hx) hB.size
    · exact hx.2
  · rcases hx with hx | hx
    · exact h.ge x hx
    · exact Nat.le_trans h.big hx.1
  · rintro (hx | hx)
    · exact h.n9 k e hx
    · have := (l7 k e).2; omega
  · rintro (hx | hx)
    · exact h.n10 k e hx
    · have := (l8 k e).2; omega

theorem SRun.grow (h : SRun base w S ls v9 outs v10) (hB : Below w.heap.size w w') : SRun base w' S ls v9 outs v10 := by
  obtain ⟨ps, r1, r2, r3⟩ := h.row
  exact h.keep (fun _ h => h) (fun x hx => Nat.lt_of_lt_of_le (h.lt x hx) hB.size) h.ge hB.size (fun b hb => hB.block b (h.lt b hb)) (fun k e => ⟨hB.block k (r2.lt k e).2, h.n9 k e⟩) (fun k e => ⟨hB.block k (h.out.lt k e).2, h.n10 k e⟩)

theorem SRun.upd {g : Nat} (h : SRun base w S ls v9 outs v10) (hU : Upd g w w') (hg : ¬ S g) (h7 : v9.ownBlock ≠ some g) (h8 : v10.ownBlock ≠ some g) : SRun base w' S ls v9 outs v10 :=
  h.keep (fun _ h => h) (fun x hx => by rw [hU.size]; exact h.lt x hx) h.ge (by rw [hU.size]; exact Nat.le_refl _) (fun b hb => hU.heap (fun e => hg (e ▸ hb))) (fun k e => ⟨hU.heap (fun e2 => h7 (e2 ▸ e)), h.n9 k e⟩) (fun k e => ⟨hU.heap (fun e2 => h8 (e2 ▸ e)), h.n10 k e⟩)

/-- One more block, which was laid since, stays from now on. -/
theorem SRun.one (h : SRun base w S ls v9 outs v10) {g : Nat} (hb : base ≤ g) (hg : g < w.heap.size) (h7 : v9.ownBlock ≠ some g) (h8 : v10.ownBlock ≠ some g) : SRun base w (fun b => S b ∨ b = g) ls v9 outs v10 :=
  h.keep (fun _ h => .inl h) (fun x hx => hx.elim (h.lt x) (fun e => by omega)) (fun x hx => hx.elim (h.ge x) (fun e => by omega)) (Nat.le_refl _) (fun _ _ => rfl)
    (fun k e => ⟨rfl, fun hx => hx.elim (h.n9 k e) (fun e2 => h7 (e2 ▸ e))⟩) (fun k e => ⟨rfl, fun hx => hx.elim (h.n10 k e) (fun e2 => h8 (e2 ▸ e))⟩)

/-- A further answer. -/
theorem SRun.say (h : SRun base w S ls v9 outs v10) {v10' : Value} {x : An × Value} (hg : w.grownBy w' v10.ownBlock) (hm : Moved w v10 v10') (ho : w'.ownsRow base 94 4 v10' (outs.length + 1) (ancs outs ++ anc x)) (hx : RowS w S x.2 x.1.list.length (prs x.1.list)) :
    SRun base w' S ls v9 (outs ++ [x]) v10' := by
  obtain ⟨ps, r1, r2, r3⟩ := h.row
  have hsame : ∀ b, S b → w'.heap[b]? = w.heap[b]? := fun b hb => hg.block b (h.lt b hb) (fun e => h.n10 b e.symm hb)
  have h7 : ∀ k, v9.ownBlock = some k → w'.heap[k]? = w.heap[k]? := fun k e => hg.block k (r2.lt k e).2 (fun e2 => h.ne k e e2.symm)
  refine ⟨fun x hx => Nat.lt_of_lt_of_le (h.lt x hx) hg.size, h.ge, Nat.le_trans h.big hg.size, ⟨ps, r1, own_same r2 h7, fun j p l a b => (r3 j p l a b).keep (fun _ h => h) hsame⟩, ?_, ?_, h.n9, fun k e => ?_, fun k e e2 => ?_⟩
  · rw [List.length_append]
    simp only [ancs, List.flatMap_append, List.flatMap_cons, List.flatMap_nil, List.append_nil]
    exact ho
  · intro y hy
    rcases List.mem_append.1 hy with hy | hy
    · exact (h.lists y hy).keep (fun _ h => h) hsame
    · simp only [List.mem_cons, List.not_mem_nil, or_false] at hy
      subst hy
      exact hx.keep (fun _ h => h) hsame
  · rcases hm k e with e | e
    · exact h.n10 k e
    · intro hs; have := h.lt k hs; omega
  · rcases hm k e2 with e3 | e3
    · exact h.ne k e e3
    · have := (r2.lt k e).2; omega

/-- A further version. -/
theorem SRun.ver (h : SRun base w S ls v9 outs v10) {v9' : Value} {p : Value} {l : List Pr} {ps : List Value} (r1 : ps.length = ls.length) (r2 : w.ownsRow base 38 1 v9 ls.length ps)
    (r3 : ∀ (j : Nat) (v : Value) (l : List Pr), ps[j]? = some v → ls[j]? = some l → Ver w S v l) (hg : w.grownBy w' v9.ownBlock) (hm : Moved w v9 v9')
    (ho : w'.ownsRow base 38 1 v9' (ls.length + 1) (ps ++ [p])) (hx : Ver w S p l) :
    SRun base w' S (ls ++ [l]) v9' outs v10 := by
  have hsame : ∀ b, S b → w'.heap[b]? = w.heap[b]? := fun b hb => hg.block b (h.lt b hb) (fun e => h.n9 b e.symm hb)
  have h8 : ∀ k, v10.ownBlock = some k → w'.heap[k]? = w.heap[k]? := fun k e => hg.block k (h.out.lt k e).2 (fun e2 => h.ne k e2.symm e)
  refine ⟨fun x hx => Nat.lt_of_lt_of_le (h.lt x hx) hg.size, h.ge, Nat.le_trans h.big hg.size, ⟨ps ++ [p], by simp [r1], ?_, fun j q m a b => ?_⟩, own_same h.out h8, h.lists.keep (fun _ h => h) hsame, fun k e => ?_, h.n10, fun k e e2 => ?_⟩
  · rw [List.length_append]
    exact ho
  · by_cases hj : j < ps.length
    · rw [List.getElem?_append_left hj] at a
      rw [List.getElem?_append_left (by omega)] at b
      exact (r3 j q m a b).keep (fun _ h => h) hsame
    · have hj2 := (List.getElem?_eq_some_iff.1 a).1
      rw [List.length_append] at hj2
      simp only [List.length_cons, List.length_nil] at hj2
      have hj3 : j = ps.length := by omega
      subst hj3
      rw [List.getElem?_append_right (Nat.le_refl _), Nat.sub_self] at a
      rw [r1, List.getElem?_append_right (Nat.le_refl _), Nat.sub_self] at b
      simp only [List.getElem?_cons_zero, Option.some.injEq] at a b
      subst a
      subst b
      exact hx.keep (fun _ h => h) hsame
  · rcases hm k e with e | e
    · exact h.n9 k e
    · intro hs; have := h.lt k hs; omega
  · rcases hm k e with e3 | e3
    · exact h.ne k e3 e2
    · have := (h.out.lt k e2).2; omega

/-- What a run leaves. -/
theorem SRun.done (h : SRun base w S ls v9 outs v10) {al : List An} (ha : outs.map (·.1) = al) : Answers base w v10 al := by
  refine ⟨outs, ha, own_rowS h.out (fun k e => (h.out.lt k e).1), h.lists.keep h.ge (fun _ _ => rfl)⟩
end
end Go.Proofs.YtfejflhgaphilaaGreatDoor

namespace Go.Proofs.YtfejflhgaphilaaGreatDoor
open Go.RowKit Go.Sort Lst

/-- The table of powers of ten is as it was laid. -/
def Tab (w : World) : Prop := Lib.TabIs Tryz.prog w "internal/strconv.uint64pow10" .u64 Lib.pow10Tab
theorem Tab.grow {w w' : World} (h : Tab w) (hB : Below w.heap.size w w') : Tab w' := Joins.tab_stays (show Tryz.prog.globalNamed "internal/strconv.uint64pow10" = some 0 by kernel_rfl) h hB (Nat.le_refl _)

def mkI (s : St) (i : Nat) : Int := w64 (s.key + w64 (i * s.by_))
def mkS (s : St) (i : Nat) : ByteArray := s.text ++ digits (mkI s i)
theorem mkI_64 (s : St) (i : Nat) : I64 (mkI s i) := i64_wrap _
set_option maxHeartbeats 2000000 in
theorem manyI (s : St) (i : Nat) (w : World) (hi : i ≤ 3000) : Calls Tryz.prog 70 #[.agg s.cells.toArray, .int .i64 i] w fun e w' => e = .returned (.int .i64 (mkI s i)) ∧ Below w.heap.size w w' := by
  obtain ⟨op, sa, sk, st, sv, sc, sb⟩ := s
  obtain ⟨a1, ha1⟩ : ∃ a1 : Int, a1 = IntKind.i64.wrap (i * sb) := ⟨_, rfl⟩
  obtain ⟨a2, ha2⟩ : ∃ a2 : Int, a2 = IntKind.i64.wrap (sk + a1) := ⟨_, rfl⟩
  have HM : Hid (mkI ⟨op, sa, sk, st, sv, sc, sb⟩ i = a2) := by
    show w64 (sk + w64 (i * sb)) = a2
    rw [ha2, ha1]; rfl
  have hw1 : IntKind.i64.wrap (i * sb) = a1 := ha1.symm
  have hw2 : IntKind.i64.wrap (sk + a1) = a2 := ha2.symm
  have hw1' : wrap64 (i * sb) = a1 := by rw [← hw1, IntWalk.i64_left]
  have hw2' : wrap64 (sk + a1) = a2 := by rw [← hw2, IntWalk.i64_left]
  clear ha1 ha2
  go_enter Tryz.func70, Tryz.ntmps70
  go_wp2
  go_ret
  rw [HM.out]
  exact ⟨rfl, gNew _ _⟩

set_option maxHeartbeats 2000000 in
theorem manyS (s : St) (i : Nat) (w : World) (hi : i ≤ 3000) (hT : Tab w) (htx : s.text.size ≤ 100) : Calls Tryz.prog 56 #[.agg s.cells.toArray, .int .i64 i] w fun e w' => e = .returned (.string (mkS s i)) ∧ Below w.heap.size w w' := by
  obtain ⟨op, sa, sk, st, sv, sc, sb⟩ := s
  dsimp only at htx
  obtain ⟨a1, ha1⟩ : ∃ a1 : Int, a1 = IntKind.i64.wrap (i * sb) := ⟨_, rfl⟩
  obtain ⟨a2, ha2⟩ : ∃ a2 : Int, a2 = IntKind.i64.wrap (sk + a1) := ⟨_, rfl⟩
  have HM : Hid (mkS ⟨op, sa, sk, st, sv, sc, sb⟩ i = st ++ digits a2) := by
    show st ++ digits (w64 (sk + w64 (i * sb))) = st ++ digits a2
    rw [ha2, ha1]; rfl
  have hI2 : I64 a2 := by rw [ha2]; exact i64_wrap _
  have hw1 : IntKind.i64.wrap (i * sb) = a1 := ha1.symm
  have hw2 : IntKind.i64.wrap (sk + a1) = a2 := ha2.symm
  have hw1' : wrap64 (i * sb) = a1 := by rw [← hw1, IntWalk.i64_left]
  have hw2' : wrap64 (sk + a1) = a2 := by rw [← hw2, IntWalk.i64_left]
  have hdl := len_digits hI2
  have HFMT : Hid (∀ W, Below w.heap.size w W → Calls Tryz.prog 57 #[.int .i64 a2, .int .i64 10] W fun e w' => e = .returned (.string (digits a2)) ∧ Below W.heap.size W w') := fun W hW =>
    (Tryz.strconv_FormatInt_10 a2 hI2.1 hI2.2 W (hT.grow hW)).mono fun e w' ⟨h1, k, os, h2⟩ => ⟨h1, by rw [h2]; exact Lib.below_grow _ W (Nat.le_refl _) k os⟩
  generalize digits a2 = dg at *
  have hcat := fun W => run_string_add_sum (P := Tryz.prog) W st dg (by omega)
  have hcat' : ¬ (st.size + dg.size > 9223372036854775807) := by omega
  have hbox := box_news w #[.int .u8 op, .int .i64 sa, .int .i64 sk, .string st, .int .i64 sv, .int .i64 sc, .int .i64 sb] 90
  have t2 := hbox.cell (j := 2) rfl
  have t3 := hbox.cell (j := 3) rfl
  have t6 := hbox.cell (j := 6) rfl
  have HB := Lib.hid (gNew w (.cells #[.int .u8 op, .int .i64 sa, .int .i64 sk, .string st, .int .i64 sv, .int .i64 sc, .int .i64 sb] 90))
  clear ha1 ha2 hI2 hdl hT hbox
  go_enter Tryz.func56, Tryz.ntmps56
  go_upto_region 1 with (fail)
  generalize w.alloc (.cells #[.int .u8 op, .int .i64 sa, .int .i64 sk, .string st, .int .i64 sv, .int .i64 sc, .int .i64 sb] 90) = wa at *
  go_region_held3 (fun W : World => W.cell? ⟨w.heap.size, 2, none⟩ = some (.int .i64 sk) ∧ W.cell? ⟨w.heap.size, 3, none⟩ = some (.string st) ∧ W.cell? ⟨w.heap.size, 6, none⟩ = some (.int .i64 sb))
    (first | exact ⟨t2, t3, t6⟩ | exact K5.out)
    ((first | (go_at_call 57; refine (HFMT.out _ (below_drew HB.out)).mono ?_; rintro e w5 ⟨rfl, hB5⟩; have hb5 := gTrans (below_drew (gRefl wa)) hB5; have K5 := Lib.hid (And.intro (gCell hb5 t2) (And.intro (gCell hb5 t3) (gCell hb5 t6))); have HB5 := Lib.hid hb5; clear hB5 hb5)))
  go_wp2
  go_ret
  rw [HM.out]
  exact ⟨rfl, gTrans HB.out HB5.out⟩

/-- S and what was laid from B on. -/
def Since (S : Nat → Prop) (B : Nat) (w : World) (b : Nat) : Prop := S b ∨ (B ≤ b ∧ b < w.heap.size)

/-- The keys put, or taken out, so far. -/
structure TurnI {κ : Type} (emb : κ × Int → Pr) (txt : Bool) (kk nn : Int) (put : Bool) (keys : List Pr) (l : List Pr) (N n : Nat) (m : List (κ × Int)) : Prop where
  len : m.length ≤ N + n
  zero : ∀ x ∈ m, x.2 = 0
  run : (if put then putAll txt kk nn keys l else dropAll txt kk nn keys l) = (if put then putAll txt kk nn (keys.drop n) (m.map emb) else dropAll txt kk nn (keys.drop n) (m.map emb))

section
variable {κ : Type} {emb : κ × Int → Pr} {txt : Bool} {kk nn : Int} {keys l : List Pr} {N n : Nat} {m : List (κ × Int)} {k : κ} {f : κ × Int → Int}
theorem TurnI.put (h : TurnI emb txt kk nn true keys l N n m) (hk : keys[n]? = some (emb (k, 0))) (hf : (fun a => fP txt kk nn (emb (k, 0)) (emb a)) = f) : TurnI emb txt kk nn true keys l N (n + 1) (ins f (k, 0) m) := by
  refine ⟨?_, fun x hx => ?_, ?_⟩
  · have h1 := length_ins f (k, (0 : Int)) m
    have h2 := h.len
    split at h1 <;> omega
  · unfold ins at hx
    rcases List.mem_append.1 hx with hx | hx
    · exact h.zero x (List.mem_of_mem_take hx)
    · rcases List.mem_cons.1 hx with rfl | hx
      · rfl
      · exact h.zero x (List.mem_of_mem_drop hx)
  · have h1 := putAll_step hk h.run
    have h2 := ins_map (fP txt kk nn (emb (k, 0))) emb (k, 0) m
    rw [hf] at h2
    rw [h2] at h1
    exact h1
theorem TurnI.drop (h : TurnI emb txt kk nn false keys l N n m) (hk : keys[n]? = some (emb (k, 0))) (hf : (fun a => fP txt kk nn (emb (k, 0)) (emb a)) = f) : TurnI emb txt kk nn false keys l N (n + 1) (del f m) := by
  refine ⟨?_, fun x hx => ?_, ?_⟩
  · have h1 := length_del f m
    have h2 := h.len
    omega
  · unfold del at hx
    split at hx
    · rcases List.mem_append.1 hx with hx | hx
      · exact h.zero x (List.mem_of_mem_take hx)
      · exact h.zero x (List.mem_of_mem_drop hx)
    · exact h.zero x hx
  · have h1 := dropAll_step hk h.run
    have h2 := del_map (fP txt kk nn (emb (k, 0))) emb m
    rw [hf] at h2
    rw [h2] at h1
    exact h1
theorem TurnI.start {put : Bool} (h1 : m.length ≤ N) (h2 : ∀ x ∈ m, x.2 = 0) : TurnI emb txt kk nn put keys (m.map emb) N 0 m := ⟨h1, h2, rfl⟩
theorem TurnI.puts (h : TurnI emb txt kk nn true keys l N n m) (hn : n = keys.length) : m.map emb = putAll txt kk nn keys l := putAll_end (i := n) (by omega) h.run
theorem TurnI.drops (h : TurnI emb txt kk nn false keys l N n m) (hn : n = keys.length) : m.map emb = dropAll txt kk nn keys l := dropAll_end (i := n) (by omega) h.run
end

/-- What a step leaves. -/
def IArm {κ : Type} (MA : World → (Nat → Prop) → Nat → Nat → List (κ × Int) → Prop) (emb : κ × Int → Pr) (ty : TypeId) (txt : Bool) (kk nn : Int) (base : Nat) (s : St) (ls : List (List (κ × Int))) (l : List (κ × Int)) (outs : List (An × Value)) (v7 v8 : Value) (N : Nat) (wr wx : World) : Prop :=
  ∃ (S' : Nat → Prop) (p' : Nat) (l' : List (κ × Int)) (an : An) (la : Option Addr) (lc : Nat),
    Below wr.heap.size wr wx ∧ Whole wx wr.heap.size s.cells 90 ∧ Whole wx (wr.heap.size + 1) [.pointer (some ⟨p', 0, none⟩)] ty ∧ Whole wx (wr.heap.size + 2) (anc (an, .slice la an.list.length lc)) 92 ∧
    Run MA ty base wx S' (N + wt s) ls v7 outs v8 ∧ MA wx S' p' (N + wt s) l' ∧ l'.length ≤ N + wt s ∧ (∀ x ∈ l', x.2 = 0) ∧ RowS wx S' (.slice la an.list.length lc) an.list.length (prs an.list) ∧ (∀ b, S' b → b < wr.heap.size ∨ wr.heap.size + 3 ≤ b) ∧
    ((NewV s.op ∧ stepNext txt true kk nn (l.map emb) s = some (l'.map emb) ∧ an = an0) ∨ (¬ NewV s.op ∧ stepNext txt true kk nn (l.map emb) s = none ∧ stepSays txt true kk nn (l.map emb) s = an))

section
variable {κ : Type} {MA : World → (Nat → Prop) → Nat → Nat → List (κ × Int) → Prop} (hk : Keeps MA) {emb : κ × Int → Pr} {ty : TypeId} {txt : Bool} {kk nn : Int} {base : Nat} {s : St} {ls : List (List (κ × Int))} {l l' : List (κ × Int)} {outs : List (An × Value)} {v7 v8 : Value} {N M p' : Nat} {wr wb w5 wx : World} {S : Nat → Prop}
include hk

theorem Run.since (h : Run MA ty base wr S N ls v7 outs v8) (hB : Below wr.heap.size wr wx) (hsz : wr.heap.size + 3 ≤ wx.heap.size) (hN : N ≤ M) : Run MA ty base wx (Since S (wr.heap.size + 3) wx) M ls v7 outs v8 := by
  obtain ⟨ps, _, h7, _⟩ := h.row
  refine h.keep hk (fun _ h => .inl h) (fun x hx => ?_) (fun x hx => ?_) hB.size (fun b hb => hB.block b (h.lt b hb)) (fun k e => ?_) (fun k e => ?_) hN
  · rcases hx with hx | hx
    · have := h.lt x hx; omega
    · exact hx.2
  · rcases hx with hx | hx
    · exact h.ge x hx
    · have := h.big; omega
  · have hlt := (h7.lt k e).2
    refine ⟨hB.block k hlt, fun hx => ?_⟩
    rcases hx with hx | hx
    · exact h.n7 k e hx
    · omega
  · have hlt := (h.out.lt k e).2
    refine ⟨hB.block k hlt, fun hx => ?_⟩
    rcases hx with hx | hx
    · exact h.n8 k e hx
    · omega

/-- The new map, behind the store of the variable. -/
theorem keep_m (hM : MA w5 (Plus S wb w5) p' M l') (hS : ∀ b, S b → b < wr.heap.size) (hwb : wr.heap.size + 3 ≤ wb.heap.size) (hU : Upd (wr.heap.size + 1) w5 wx) : MA wx (Since S (wr.heap.size + 3) wx) p' M l' := by
  refine hk _ _ _ _ _ _ _ _ hM (fun b h => ?_) (fun b h => hU.heap ?_) (Nat.le_refl _)
  · rcases h with h | h
    · exact .inl h
    · exact .inr ⟨by omega, by rw [hU.size]; exact h.2⟩
  · rcases h with h | h
    · have := hS b h; omega
    · omega

theorem iarm_new (hrun : Run MA ty base wr S N ls v7 outs v8) (hB : Below wr.heap.size wr wx) (hsz : wr.heap.size + 3 ≤ wx.heap.size) (hS : Whole wx wr.heap.size s.cells 90) (hm : Whole wx (wr.heap.size + 1) [.pointer (some ⟨p', 0, none⟩)] ty)
    (hA : Whole wx (wr.heap.size + 2) [.int .i64 0, .int .i64 0, .bool false, .slice none 0 0] 92) (hM : MA wx (Since S (wr.heap.size + 3) wx) p' M l') (hMN : M ≤ N + wt s) (hl : l'.length ≤ N + wt s) (hz : ∀ x ∈ l', x.2 = 0)
    (hop : NewV s.op) (hn : stepNext txt true kk nn (l.map emb) s = some (l'.map emb)) : IArm MA emb ty txt kk nn base s ls l outs v7 v8 N wr wx := by
  refine ⟨_, p', l', an0, none, 0, hB, hS, hm, hA, hrun.since hk hB hsz (Nat.le_add_right _ _), hk _ _ _ _ _ _ _ _ hM (fun _ h => h) (fun _ _ => rfl) hMN, hl, hz, ⟨none, 0, rfl, Nat.le_refl _, fun h => absurd h (Nat.lt_irrefl _)⟩, fun b h => ?_, .inl ⟨hop, hn, rfl⟩⟩
  rcases h with h | h
  · exact .inl (hrun.lt b h)
  · exact .inr h.1

theorem iarm_old {an : An} {la : Option Addr} {lc : Nat} (hrun : Run MA ty base wr S N ls v7 outs v8) (hB : Below wr.heap.size wr wx) (hsz : wr.heap.size + 3 ≤ wx.heap.size) (hS : Whole wx wr.heap.size s.cells 90) (hm : Whole wx (wr.heap.size + 1) [.pointer (some ⟨p', 0, none⟩)] ty)
    (hA : Whole wx (wr.heap.size + 2) (anc (an, .slice la an.list.length lc)) 92) (hM : MA wr S p' N l) (hl : l.length ≤ N) (hz : ∀ x ∈ l, x.2 = 0) (hr : RowS wx (fun b => wr.heap.size + 3 ≤ b ∧ b < wx.heap.size) (.slice la an.list.length lc) an.list.length (prs an.list))
    (hop : ¬ NewV s.op) (hsay : stepSays txt true kk nn (l.map emb) s = an) : IArm MA emb ty txt kk nn base s ls l outs v7 v8 N wr wx := by
  refine ⟨Since S (wr.heap.size + 3) wx, p', l, an, la, lc, hB, hS, hm, hA, hrun.since hk hB hsz (Nat.le_add_right _ _), hk _ _ _ _ _ _ _ _ hM (fun _ h => .inl h) (fun b h => hB.block b (hrun.lt b h)) (Nat.le_add_right _ _), by omega, hz, hr.keep (fun _ h => .inr h) (fun _ _ => rfl), fun b h => ?_, .inr ⟨hop, stepNext_none hop, hsay⟩⟩
  rcases h with h | h
  · exact .inl (hrun.lt b h)
  · exact .inr h.1
end
end Go.Proofs.YtfejflhgaphilaaGreatDoor

/-
  THE WALK of the specification's iterator over pairs in order.
  LAWS of no program for the walks of iterators: worlds that are alike but for two blocks; three cells of a block that are set.
-/
import Derived.Test.YtfejflhgaphilaaGreatDoorVM
import Derived.Deep.CutBlock
import Derived.Test.YtfejflhgaphilaaGreatDoorVK
set_option linter.all false
set_option linter.unusedVariables false
set_option linter.unusedSimpArgs false
set_option linter.unusedSectionVars false
namespace Go.Proofs.YtfejflhgaphilaaGreatDoor
open Go.RowKit Go.Sort Lst

abbrev Mv.cells (m : Mv) : List Value := [.int .u8 m.op, .int .i64 m.key, .string m.text]
abbrev mvs (l : List Mv) : List Value := l.flatMap Mv.cells
/-- The five cells of a move's answer. -/
abbrev wac (x : Pr × Bool × Bool) : List Value := [.int .i64 x.1.key, .string x.1.text, .int .i64 x.1.val, .bool x.2.1, .bool x.2.2]
abbrev was (l : List (Pr × Bool × Bool)) : List Value := l.flatMap wac
/-- A move as the guards let in. -/
structure MvOK (m : Mv) : Prop where
  lo : 0 ≤ m.op
  hi : m.op ≤ 4
  key : I64 m.key

def seekP (txt : Bool) (kk nn : Int) (L : List Pr) (m : Mv) : Nat := pos (fP txt kk nn ⟨m.key, m.text, 0⟩) L

/-- How far a walk has come. -/
structure WalkSo (seek : Mv → Nat) (L : List Pr) (t0 : Int) (ms : List Mv) (i : Nat) (t : Int) (outs : List (Pr × Bool × Bool)) : Prop where
  lo : -1 ≤ t
  hi : t < L.length
  len : outs.length = i
  run : walkRun seek L t0 ms = outs ++ walkRun seek L t (ms.drop i)

theorem land_range {n m : Nat} (h : n ≤ m) : -1 ≤ landP n m ∧ landP n m < m := by
  unfold landP
  split <;> omega

theorem move_range {seek n : Nat} {op t : Int} (hs : seek ≤ n) (h1 : -1 ≤ t) (h2 : t < n) : -1 ≤ moveAt seek n op t ∧ moveAt seek n op t < n := by
  unfold moveAt
  split
  · exact land_range (Nat.zero_le _)
  · split
    · omega
    · split
      · split
        · omega
        · exact land_range (by omega)
      · split
        · split <;> omega
        · exact land_range hs

theorem WalkSo.step {seek : Mv → Nat} {L : List Pr} {t0 t : Int} {ms : List Mv} {i : Nat} {outs : List (Pr × Bool × Bool)} {m : Mv} (h : WalkSo seek L t0 ms i t outs) (hm : ms[i]? = some m) (hs : seek m ≤ L.length) :
    WalkSo seek L t0 ms (i + 1) (moveAt (seek m) L.length m.op t) (outs ++ [moveSays L m.op t (moveAt (seek m) L.length m.op t)]) :=
  ⟨(move_range hs h.lo h.hi).1, (move_range hs h.lo h.hi).2, by simp [h.len], walk_step hm h.run⟩

theorem box2 (w : World) (x : Obj) (cs : Array Value) (t : TypeId) : Whole ((w.alloc x).alloc (.cells cs t)) (w.heap.size + 1) cs.toList t := by
  have := box_news (w.alloc x) cs t
  rwa [alloc_sz] at this

/-- What a move leaves: the iterator at t', the answer's block A but for 'done'. -/
def Moves (wr : World) (L : List Pr) (A : Nat) (op t t' : Int) (wx : World) : Prop :=
  ∃ (q : Pr) (ok : Bool), Whole wx A [.int .i64 q.key, .string q.text, .int .i64 q.val, .bool ok, .bool false] 58 ∧ Below wr.heap.size wr wx ∧ moveSays L op t t' = (q, ok, decide (t' < 0))

end Go.Proofs.YtfejflhgaphilaaGreatDoor

namespace Go.Proofs.YtfejflhgaphilaaGreatDoor
open Go.RowKit Go.Sort Lst

/-- Below B all is as it was, but for the blocks i and j. -/
structure But (B i j : Nat) (w w' : World) : Prop where
  os : w'.os = w.os
  tape : w'.tape = w.tape
  output : w'.output = w.output
  size : w.heap.size ≤ w'.heap.size
  block : ∀ k, k < B → k ≠ i → k ≠ j → w'.heap[k]? = w.heap[k]?

theorem But.refl (B i j : Nat) (w : World) : But B i j w w := ⟨rfl, rfl, rfl, Nat.le_refl _, fun _ _ _ _ => rfl⟩
theorem But.trans {B i j : Nat} {a b c : World} (h : But B i j a b) (k : But B i j b c) : But B i j a c :=
  ⟨k.os.trans h.os, k.tape.trans h.tape, k.output.trans h.output, Nat.le_trans h.size k.size, fun x hx h1 h2 => (k.block x hx h1 h2).trans (h.block x hx h1 h2)⟩
theorem But.mono {B B' i j : Nat} {a b : World} (h : But B i j a b) (hB : B' ≤ B) : But B' i j a b := ⟨h.os, h.tape, h.output, h.size, fun x hx => h.block x (Nat.lt_of_lt_of_le hx hB)⟩
theorem But.of_below {B i j : Nat} {a b : World} (h : Below B a b) : But B i j a b := ⟨h.os, h.tape, h.output, h.size, fun x hx _ _ => h.block x hx⟩
theorem But.of_right {B i j : Nat} {a b : World} (h : a.grownBy b (some j)) (hB : B ≤ a.heap.size) : But B i j a b := ⟨h.os, h.tape, h.output, h.size, fun x hx _ h1 => h.block x (Nat.lt_of_lt_of_le hx hB) (fun e => h1 (by injection e))⟩
theorem But.cell {B i j : Nat} {a b : World} (h : But B i j a b) {p : Addr} {v : Value} (hp : p.block < B) (h1 : p.block ≠ i) (h2 : p.block ≠ j) (hc : a.cell? p = some v) : b.cell? p = some v := cell_block (h.block _ hp h1 h2) hc
theorem But.row {B i j M : Nat} {a b : World} (h : But B i j a b) {e : TypeId} {size : Nat} {v : Value} {n : Nat} {xs : List Value} (ho : a.ownsRow M e size v n xs) (hB : a.heap.size ≤ B) (hi : i < M) (hj : j < M) : b.ownsRow M e size v n xs := by
  have hl := ho.lt
  refine ⟨ho.1, ho.2.imp id ?_⟩
  rintro ⟨g, cap, cur, rfl, hb, hg, rest⟩
  have := hl g rfl
  exact ⟨g, cap, cur, rfl, hb, (h.block g (by omega) (by omega) (by omega)).trans hg, rest⟩

/-- How far pairs were put. -/
structure PutQ (txt : Bool) (kk nn : Int) (qs : List Pr) (i : Nat) (l : List Pr) : Prop where
  len : l.length ≤ i
  run : putAll txt kk nn qs [] = putAll txt kk nn (qs.drop i) l
theorem PutQ.start (txt : Bool) (kk nn : Int) (qs : List Pr) : PutQ txt kk nn qs 0 [] := ⟨Nat.le_refl _, rfl⟩
theorem PutQ.step {txt : Bool} {kk nn : Int} {qs : List Pr} {i : Nat} {l : List Pr} {q : Pr} (h : PutQ txt kk nn qs i l) (hq : qs[i]? = some q) : PutQ txt kk nn qs (i + 1) (ins (fP txt kk nn q) q l) :=
  ⟨by rw [length_ins]; have := h.len; split <;> omega, putAll_step hq h.run⟩
end Go.Proofs.YtfejflhgaphilaaGreatDoor

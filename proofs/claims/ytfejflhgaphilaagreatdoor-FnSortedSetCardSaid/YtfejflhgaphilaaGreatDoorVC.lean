/-
  PREDICATES ON WORLDS, of no program: what the nodes of the tree hold, where the comparer is, and what stays when a world grows.
  THE WALK of sort.Search, for every closure that says the same in every later world, and at 40 places at most.
  LAWS of no program: make, copy and the store of an element, of whatever size, in a block that is known whole; append with a word on where the new row lies.
  LAWS of no program, the second part: boxes that are made and filled later.
  LAWS of no program, the third part: what a child's delete leaves, and the branch that is made of it.
  LAWS of no program, the fourth part: cells of a block that is known whole; rows that are filled from the left.
  LAWS of no program, the fifth part: 'append' to a row that is owned, with a word on where the row lies behind it.
  LAWS of no program, the sixth part: 'append' as one operation of a region whose order is drawn; a slice cut off behind some of its elements.
  WHERE AN ITERATOR STANDS: the way from a tree's root down to a node, and the cells of the stack. No program here.
  LAWS of no program: a slice that is read, as a value of known length whose cells are known; rows of pairs.
-/
import Derived.Test.YtfejflhgaphilaaGreatDoorVA
import Derived.WalkKit
import Derived.Lib.Hide
import Derived.Deep.Draws
import Derived.Test.YtfejflhgaphilaaGreatDoorVB
import Derived.Deep.LoopGhost
import Derived.Shelf.Abstract
import Derived.Laws.CopyOwn
import Derived.Laws.Tables
import Derived.OwnWalk
import Derived.Laws.AppendOwn
import Derived.Laws.MakeOwn
set_option linter.all false
set_option linter.unusedVariables false
set_option linter.unusedSimpArgs false
set_option linter.unusedSectionVars false
namespace Go.Proofs.YtfejflhgaphilaaGreatDoor
open Go.RowKit

/-! ### Growing worlds -/

theorem gRefl (w : World) : Below w.heap.size w w := Below.refl _ _
theorem gTrans {a b c : World} (h : Below a.heap.size a b) (k : Below b.heap.size b c) : Below a.heap.size a c := h.trans (k.mono h.size)
theorem gDrewN {B : Nat} {a w : World} (h : Below B a w) (n : Nat) : Below B a (w.drewN n) := ⟨h.os, h.tape, h.output, h.size, h.block⟩
theorem gNew (w : World) (o : Obj) : Below w.heap.size w (w.alloc o) := (Below.refl _ _).alloc (Nat.le_refl _) _
theorem gNew2 (w : World) (o p : Obj) : Below w.heap.size w ((w.alloc o).alloc p) := (gNew w o).alloc (by simp) _
theorem gNew3 (w : World) (o p q : Obj) : Below w.heap.size w (((w.alloc o).alloc p).alloc q) := (gNew2 w o p).alloc (by simp; omega) _
theorem gCell {w w' : World} (h : Below w.heap.size w w') {p : Addr} {v : Value} (hp : w.cell? p = some v) : w'.cell? p = some v := by
  rw [h.cell (World.block_lt_of_cell? w p hp)]; exact hp

theorem cell_block {w w' : World} {p : Addr} (h : w'.heap[p.block]? = w.heap[p.block]?) {v : Value} (hp : w.cell? p = some v) : w'.cell? p = some v :=
  (World.cell?_of_block h).trans hp

theorem gHeap {w w' : World} (h : Below w.heap.size w w') {b : Nat} {o : Obj} (hb : w.heap[b]? = some o) : w'.heap[b]? = some o := by
  rw [h.block b (Array.getElem?_eq_some_iff.1 hb).1]; exact hb

/-- The cells from ⟨b, o⟩ on. -/
def Row (w : World) (b o : Nat) (cs : List Value) : Prop := ∀ j v, cs[j]? = some v → w.cell? ⟨b, o + j, none⟩ = some v

theorem Row.of_block {w w' : World} {b o : Nat} {cs : List Value} (h : Row w b o cs) (hb : w'.heap[b]? = w.heap[b]?) : Row w' b o cs :=
  fun j v hj => cell_block hb (h j v hj)
theorem Row.grow {w w' : World} {b o : Nat} {cs : List Value} (h : Row w b o cs) (hb : Below w.heap.size w w') : Row w' b o cs :=
  fun j v hj => gCell hb (h j v hj)
theorem Row.at {w : World} {b o : Nat} {cs : List Value} (h : Row w b o cs) {j : Nat} {v : Value} (hj : cs[j]? = some v) : w.cell? ⟨b, o + j, none⟩ = some v := h j v hj
theorem Row.drop {w : World} {b o : Nat} {cs : List Value} (h : Row w b o cs) (n : Nat) : Row w b (o + n) (cs.drop n) := fun j v hj => by
  rw [List.getElem?_drop] at hj
  have := h (n + j) v hj
  rwa [← Nat.add_assoc] at this
theorem Row.take {w : World} {b o : Nat} {cs : List Value} (h : Row w b o cs) (n : Nat) : Row w b o (cs.take n) := fun j v hj => by
  rw [List.getElem?_take] at hj
  split at hj
  · exact h j v hj
  · cases hj

/-! ### Lists of cells that are laid side by side, sz of each thing -/

section flat
variable {α : Type} {g : α → List Value} {sz : Nat} (hsz : ∀ x, (g x).length = sz)
include hsz
theorem flat_len (l : List α) : (l.flatMap g).length = l.length * sz := by
  induction l with
  | nil => simp
  | cons x t ih => rw [List.flatMap_cons, List.length_append, ih, hsz, List.length_cons, Nat.add_mul]; omega
theorem flat_drop : ∀ (l : List α) (n : Nat), (l.flatMap g).drop (n * sz) = (l.drop n).flatMap g
  | l, 0 => by simp
  | [], n + 1 => by simp
  | x :: t, n + 1 => by
    have h : (g x ++ t.flatMap g).drop sz = t.flatMap g := by rw [← hsz x]; exact List.drop_left
    rw [List.flatMap_cons, List.drop_succ_cons, ← flat_drop t n, Nat.add_mul, Nat.add_comm, Nat.one_mul, ← List.drop_drop, h]
theorem flat_take : ∀ (l : List α) (n : Nat), (l.flatMap g).take (n * sz) = (l.take n).flatMap g
  | l, 0 => by simp
  | [], n + 1 => by simp
  | x :: t, n + 1 => by
    rw [List.flatMap_cons, List.take_succ_cons, List.flatMap_cons, ← flat_take t n, Nat.add_mul, Nat.add_comm, Nat.one_mul, List.take_append, hsz, List.take_of_length_le (by rw [hsz]; omega), Nat.add_sub_cancel_left]
theorem flat_get {l : List α} {i j : Nat} {x : α} (hx : l[i]? = some x) (hj : j < sz) : (l.flatMap g)[i * sz + j]? = (g x)[j]? := by
  rw [← List.getElem?_drop, flat_drop hsz]
  obtain ⟨h, rfl⟩ := List.getElem?_eq_some_iff.1 hx
  rw [List.drop_eq_getElem_cons h, List.flatMap_cons, List.getElem?_append_left (by rw [hsz]; exact hj)]
end flat

/-! ### What holds of keys and comparers -/

def WfI (x : Int) : Prop := -9223372036854775808 ≤ x ∧ x ≤ 9223372036854775807
def WfS (_ : ByteArray) : Prop := True

/-- c compares numbers by the kind kk, with nn. -/
def CmpVI (kk nn : Int) (c : Value) : Prop :=
  (kk = 0 ∧ ∃ x, c = .iface 331 (.pointer (some x))) ∨ (0 ≤ kk ∧ kk ≤ 3 ∧ (kk = 3 → 1 ≤ nn ∧ nn ≤ 1000) ∧ c = .iface 137 (.agg #[.int .u8 kk, .int .i64 nn]))
/-- c compares texts by the kind kk. -/
def CmpVS (kk nn : Int) (c : Value) : Prop :=
  (kk = 0 ∧ ∃ x, c = .iface 315 (.pointer (some x))) ∨ (0 ≤ kk ∧ kk ≤ 3 ∧ c = .iface 123 (.agg #[.int .u8 kk, .int .i64 nn]))

theorem CmpVI.iface {kk nn : Int} {c : Value} (h : CmpVI kk nn c) : ∃ t x, c = .iface t x := by
  rcases h with ⟨_, x, rfl⟩ | ⟨_, _, _, rfl⟩
  · exact ⟨_, _, rfl⟩
  · exact ⟨_, _, rfl⟩
theorem CmpVS.iface {kk nn : Int} {c : Value} (h : CmpVS kk nn c) : ∃ t x, c = .iface t x := by
  rcases h with ⟨_, x, rfl⟩ | ⟨_, _, rfl⟩
  · exact ⟨_, _, rfl⟩
  · exact ⟨_, _, rfl⟩

/-! ### Instances of the generic code -/

structure Inst (κ : Type) where
  enc : κ → Value
  ent : κ × Int → List Value
  leaf : TypeId
  branch : TypeId
  te : TypeId

/-- A child: its value, its content, its potential. -/
structure Kid (κ : Type) where
  v : Value
  l : List (κ × Int)
  f : Nat

def keyOf {κ : Type} (I : Inst κ) (l : List (κ × Int)) : Value :=
  match l with
  | p :: _ => I.enc p.1
  | [] => undef

/-- v is a node of height h whose content is l; all its blocks lie in S; f: its potential. -/
def Node {κ : Type} (I : Inst κ) (w : World) (S : Nat → Prop) : Nat → Value → List (κ × Int) → Nat → Prop
  | 0, v, l, f => ∃ (a b o cap : Nat), v = .iface I.leaf (.pointer (some ⟨a, 0, none⟩)) ∧ S a ∧ S b ∧ w.cell? ⟨a, 0, none⟩ = some (.slice (some ⟨b, o, none⟩) l.length cap) ∧
      l.length ≤ cap ∧ cap ≤ 40 ∧ 0 < l.length ∧ l.length ≤ 32 ∧ f = l.length - 17 ∧ Row w b o (l.flatMap I.ent) ∧ ∃ cs fr, w.heap[b]? = some (.cells cs I.te fr)
  | h + 1, v, l, f => ∃ (a b o cap : Nat) (ks : List (Kid κ)), v = .iface I.branch (.pointer (some ⟨a, 0, none⟩)) ∧ S a ∧ S b ∧ w.cell? ⟨a, 0, none⟩ = some (.slice (some ⟨b, o, none⟩) ks.length cap) ∧
      ks.length ≤ cap ∧ cap ≤ 40 ∧ 0 < ks.length ∧ ks.length ≤ 32 ∧ l = (ks.map (·.l)).flatten ∧ f = (ks.map (·.f)).sum + 16 ^ (h + 1) * (ks.length - 17) ∧
      Row w b o (ks.flatMap fun c => [keyOf I c.l, c.v]) ∧ ∀ c ∈ ks, Node I w S h c.v c.l c.f

theorem Node.ne {κ : Type} {I : Inst κ} {w : World} {S : Nat → Prop} : ∀ {h : Nat} {v : Value} {l : List (κ × Int)} {f : Nat}, Node I w S h v l f → l ≠ []
  | 0, _, l, _, ⟨_, _, _, _, _, _, _, _, _, _, h, _⟩ => by intro e; subst e; simp at h
  | h + 1, _, _, _, ⟨_, _, _, _, ks, _, _, _, _, _, _, h1, _, h2, _, _, h3⟩ => by
    cases ks with
    | nil => simp at h1
    | cons c r =>
      have := Node.ne (h3 c (by simp))
      rw [h2]
      intro e
      simp at e
      exact this e.1

/-- What lies in blocks that have not turned stays. -/
theorem Node.keep {κ : Type} {I : Inst κ} {w w' : World} {S S' : Nat → Prop} (hS : ∀ b, S b → S' b) (hw : ∀ b, S b → w'.heap[b]? = w.heap[b]?) :
    ∀ {h : Nat} {v : Value} {l : List (κ × Int)} {f : Nat}, Node I w S h v l f → Node I w' S' h v l f
  | 0, _, _, _, ⟨a, b, o, cap, h1, h2, h3, h4, h5, h6, h7, h8, h9, h10, cs, fr, h11⟩ =>
    ⟨a, b, o, cap, h1, hS _ h2, hS _ h3, cell_block (hw _ h2) h4, h5, h6, h7, h8, h9, h10.of_block (hw _ h3), cs, fr, (hw _ h3).trans h11⟩
  | h + 1, _, _, _, ⟨a, b, o, cap, ks, h1, h2, h3, h4, h5, h6, h7, h8, h9, h10, h11, h12⟩ =>
    ⟨a, b, o, cap, ks, h1, hS _ h2, hS _ h3, cell_block (hw _ h2) h4, h5, h6, h7, h8, h9, h10, h11.of_block (hw _ h3), fun c hc => (h12 c hc).keep hS hw⟩

end Go.Proofs.YtfejflhgaphilaaGreatDoor

namespace Go.Proofs.YtfejflhgaphilaaGreatDoor
open Go.RowKit Go.Sort

/-- c is a comparer (whatever its type) that says cmp of all keys for which Wf holds. -/
def CmpOK {κ : Type} (E : κ → Value) (Wf : κ → Prop) (cmp : κ → κ → Int) (c : Value) : Prop :=
  ∃ (ct : TypeId) (cx : Value) (fc : FuncId) (rv : Value), c = .iface ct cx ∧ (∀ w, (nilAhead 474 ct cx "Compare").run Tryz.prog w = .ok (some false) w) ∧ (∀ w, (method 474 ct cx "Compare").run Tryz.prog w = .ok (fc, rv) w) ∧
    (∀ args w, (callFunc fc args).run Tryz.prog w = .ok (.enter fc args) w) ∧ (∀ x y w, Wf x → Wf y → Calls Tryz.prog fc #[rv, E x, E y] w fun e w' => e = .returned (.int .i64 (cmp x y)) ∧ Below w.heap.size w w')

theorem naD (a : Addr) (w : World) : (nilAhead 474 331 (.pointer (some a)) "Compare").run Tryz.prog w = .ok (some false) w := by kernel_rfl
theorem meD (a : Addr) (w : World) : (method 474 331 (.pointer (some a)) "Compare").run Tryz.prog w = .ok (268, .pointer (some a)) w := by kernel_rfl
theorem naO (k n : Int) (w : World) : (nilAhead 474 137 (.agg #[.int .u8 k, .int .i64 n]) "Compare").run Tryz.prog w = .ok (some false) w := by kernel_rfl
theorem meO (k n : Int) (w : World) : (method 474 137 (.agg #[.int .u8 k, .int .i64 n]) "Compare").run Tryz.prog w = .ok (200, .agg #[.int .u8 k, .int .i64 n]) w := by kernel_rfl
theorem naDs (a : Addr) (w : World) : (nilAhead 474 315 (.pointer (some a)) "Compare").run Tryz.prog w = .ok (some false) w := by kernel_rfl
theorem meDs (a : Addr) (w : World) : (method 474 315 (.pointer (some a)) "Compare").run Tryz.prog w = .ok (255, .pointer (some a)) w := by kernel_rfl
theorem naOs (k n : Int) (w : World) : (nilAhead 474 123 (.agg #[.int .u8 k, .int .i64 n]) "Compare").run Tryz.prog w = .ok (some false) w := by kernel_rfl
theorem meOs (k n : Int) (w : World) : (method 474 123 (.agg #[.int .u8 k, .int .i64 n]) "Compare").run Tryz.prog w = .ok (199, .agg #[.int .u8 k, .int .i64 n]) w := by kernel_rfl

theorem cmpOK_int {kk nn : Int} {c : Value} (h : CmpVI kk nn c) : CmpOK (Value.int .i64) WfI (cmpI kk nn) c := by
  rcases h with ⟨rfl, x, rfl⟩ | ⟨h0, h3, hn, rfl⟩
  · refine ⟨331, _, 268, _, rfl, naD x, meD x, enters_of Tryz.func268 (by kernel_rfl) rfl, fun a b w _ _ => ?_⟩
    exact (defcomparer_int_any _ a b w).mono fun e w' ⟨h1, h2⟩ => ⟨h1, by rw [← h2]; exact Below.refl _ _⟩
  · exact ⟨137, _, 200, _, rfl, naO kk nn, meO kk nn, enters_of Tryz.func200 (by kernel_rfl) rfl, fun a b w ha hb => numcmp_any kk nn a b w h0 h3 hn ha.1 ha.2 hb.1 hb.2⟩

theorem cmpOK_text {kk nn : Int} {c : Value} (h : CmpVS kk nn c) : CmpOK Value.string WfS (cmpS kk) c := by
  rcases h with ⟨rfl, x, rfl⟩ | ⟨h0, h3, rfl⟩
  · refine ⟨315, _, 255, _, rfl, naDs x, meDs x, enters_of Tryz.func255 (by kernel_rfl) rfl, fun a b w _ _ => ?_⟩
    exact (defcomparer_text_any _ a b w).mono fun e w' ⟨h1, h2⟩ => ⟨h1, by rw [← h2]; exact Below.refl _ _⟩
  · exact ⟨123, _, 199, _, rfl, naOs kk nn, meOs kk nn, enters_of Tryz.func199 (by kernel_rfl) rfl, fun a b w _ _ => textcmp_any kk nn a b w h0 h3⟩

/-- What a search over n places finds. -/
def Found (p : Nat → Bool) (n : Nat) (w : World) (e : Ending) (w' : World) : Prop :=
  ∃ r : Nat, e = .returned (.int .i64 r) ∧ r ≤ n ∧ (∀ t, t < r → p t = false) ∧ (∀ t, r ≤ t → t < n → p t = true) ∧ Below w.heap.size w w'

def Says (g : Nat) (cb : Array Value) (n : Nat) (p : Nat → Bool) (w : World) : Prop :=
  ∀ (W : World) (i : Nat), i < n → Below w.heap.size w W → Calls Tryz.prog g (#[.int .i64 i] ++ cb) W fun e w' => e = .returned (.bool (p i)) ∧ Below W.heap.size W w'

set_option maxHeartbeats 1000000 in
theorem search_any (g : Nat) (cb : Array Value) (n : Nat) (p : Nat → Bool) (w : World) (eg : ∀ args w, (callFunc g args).run Tryz.prog w = .ok (.enter g args) w) (hn : n ≤ 100000)
    (hf : Says g cb n p w) (hmono : ∀ a b, a ≤ b → b < n → p a = true → p b = true) :
    Calls Tryz.prog 209 #[.int .i64 n, .func (.func g) #[] cb] w (Found p n w) := by
  have HF := Lib.hid hf
  have M := Lib.hid hmono
  clear hf hmono
  go_enter Tryz.func209, Tryz.ntmps209
  go_wp2
  go_loopg [5, 6] n (fun kx s5 s6 wr => ∃ (lo hi : Nat), s5 = .int .i64 lo ∧ s6 = .int .i64 hi ∧ lo ≤ hi ∧ hi ≤ n ∧ hi - lo ≤ kx ∧ Below w.heap.size w wr ∧
    Aside ((∀ t, t < lo → p t = false) ∧ (∀ t, hi ≤ t → t < n → p t = true)))
  case atStart => exact ⟨0, n, rfl, rfl, Nat.zero_le _, Nat.le_refl _, by omega, Below.refl _ _, (⟨fun t ht => absurd ht (Nat.not_lt_zero _), fun t h1 h2 => by omega⟩ : (∀ t, t < 0 → p t = false) ∧ (∀ t, n ≤ t → t < n → p t = true))⟩
  case round =>
    obtain ⟨lo, hi, rfl, rfl, hlh, hin, hg, hB, I⟩ := hrel
    by_cases hlt : lo < hi
    · have hc := HF.out wr ((lo + hi) / 2) (by omega) hB
      rw [show (((lo + hi) / 2 : Nat) : Int) = ((lo : Int) + (hi : Int)) / 2 by omega] at hc
      have HB := Lib.hid hB
      clear hB
      cases hp : p ((lo + hi) / 2) <;> rw [hp] at hc
      · have HP : Aside (p ((lo + hi) / 2) = false) := hp
        clear hp
        go_wp2_with (go_at_fn g; refine hc.mono ?_; rintro e w' ⟨rfl, hB2⟩)
        go_roundg (hi - ((lo + hi) / 2 + 1))
        case measure => omega
        case rel =>
          have I2 : Aside ((∀ t, t < (lo + hi) / 2 + 1 → p t = false) ∧ (∀ t, hi ≤ t → t < n → p t = true)) := ⟨fun t ht => (by
            cases h : p t with
            | false => rfl
            | true => have := M.out t ((lo + hi) / 2) (by omega) (by omega) h; rw [HP.out] at this; cases this), I.out.2⟩
          exact ⟨(lo + hi) / 2 + 1, hi, by rw [show ((lo : Int) + (hi : Int)) / 2 + 1 = (((lo + hi) / 2 + 1 : Nat) : Int) by omega], rfl, by omega, hin, Nat.le_refl _, gTrans HB.out hB2, I2⟩
      · have HP : Aside (p ((lo + hi) / 2) = true) := hp
        clear hp
        go_wp2_with (go_at_fn g; refine hc.mono ?_; rintro e w' ⟨rfl, hB2⟩)
        go_roundg ((lo + hi) / 2 - lo)
        case measure => omega
        case rel =>
          have I2 : Aside ((∀ t, t < lo → p t = false) ∧ (∀ t, (lo + hi) / 2 ≤ t → t < n → p t = true)) := ⟨I.out.1, fun t ht htn => M.out ((lo + hi) / 2) t ht htn HP.out⟩
          exact ⟨lo, (lo + hi) / 2, rfl, by rw [show ((lo : Int) + (hi : Int)) / 2 = (((lo + hi) / 2 : Nat) : Int) by omega], by omega, by omega, Nat.le_refl _, gTrans HB.out hB2, I2⟩
    · obtain rfl : hi = lo := by omega
      have HB := Lib.hid hB
      clear hB
      go_wp2
      go_ret
      exact ⟨hi, rfl, hin, I.out.1, I.out.2, HB.out⟩
end Go.Proofs.YtfejflhgaphilaaGreatDoor

namespace Go.Proofs.YtfejflhgaphilaaGreatDoor
open Go.RowKit

/-- Block g alone has turned; no block is new. -/
structure Upd (g : Nat) (w w' : World) : Prop where
  by_ : w.grownBy w' (some g)
  size : w'.heap.size = w.heap.size

theorem Upd.refl (g : Nat) (w : World) : Upd g w w := ⟨World.grownBy.refl _ _, rfl⟩
theorem Upd.trans {g : Nat} {a b c : World} (h : Upd g a b) (k : Upd g b c) : Upd g a c :=
  ⟨⟨k.by_.os.trans h.by_.os, k.by_.tape.trans h.by_.tape, k.by_.output.trans h.by_.output, by rw [k.size, h.size]; exact Nat.le_refl _, fun i hi hne => (k.by_.block i (by rw [h.size]; exact hi) hne).trans (h.by_.block i hi hne)⟩, k.size.trans h.size⟩
theorem Upd.heap {g : Nat} {w w' : World} (h : Upd g w w') {b : Nat} (hb : b ≠ g) : w'.heap[b]? = w.heap[b]? := by
  by_cases hl : b < w.heap.size
  · exact h.by_.block b hl (by simpa using hb)
  · rw [Array.getElem?_eq_none (by rw [h.size]; omega), Array.getElem?_eq_none (by omega)]
theorem Upd.cell {g : Nat} {w w' : World} (h : Upd g w w') {p : Addr} (hp : p.block ≠ g) {v : Value} (hc : w.cell? p = some v) : w'.cell? p = some v := cell_block (h.heap hp) hc
theorem Upd.frozen {g : Nat} {w w' : World} (h : Upd g w w') {p : Addr} (hp : p.block ≠ g) : w'.frozen? p = w.frozen? p := World.frozen?_of_block (w := w) (h.heap hp)
theorem Upd.row {g : Nat} {w w' : World} (h : Upd g w w') {b o : Nat} {cs : List Value} (hb : b ≠ g) (hc : Row w b o cs) : Row w' b o cs := hc.of_block (h.heap hb)
theorem upd_drew {g : Nat} {w w' : World} (h : Upd g w.drew w') : Upd g w w' := ⟨⟨h.by_.os, h.by_.tape, h.by_.output, h.by_.size, h.by_.block⟩, h.size⟩
theorem upd_setRow (w : World) (g : Nat) (cs : Array Value) : Upd g w (w.setRow g cs) :=
  ⟨⟨rfl, rfl, rfl, by simp, fun k _ hk => setRow_other w g k _ (fun e => hk (by rw [e]))⟩, by simp⟩

/-- A block whose cells are known. -/
def Whole (w : World) (g : Nat) (cur : List Value) (t : TypeId) : Prop := w.heap[g]? = some (.cells cur.toArray t (0, 0))

theorem Whole.row {w : World} {g : Nat} {cur : List Value} {t : TypeId} (h : Whole w g cur t) : Row w g 0 cur := fun j v hj => by
  unfold Whole at h
  simp [World.cell?, h, hj]
theorem Whole.upd {w w' : World} {g b : Nat} {cur : List Value} {t : TypeId} (h : Whole w b cur t) (hu : Upd g w w') (hb : b ≠ g) : Whole w' b cur t := (hu.heap hb).trans h
theorem Whole.grow {w w' : World} {b : Nat} {cur : List Value} {t : TypeId} (h : Whole w b cur t) (hu : Below w.heap.size w w') : Whole w' b cur t := gHeap hu h
theorem Whole.cell {w : World} {g : Nat} {cur : List Value} {t : TypeId} (h : Whole w g cur t) {j : Nat} {v : Value} (hj : cur[j]? = some v) : w.cell? ⟨g, j, none⟩ = some v := by
  simpa using h.row j v hj
theorem Whole.frozen {w : World} {g : Nat} {cur : List Value} {t : TypeId} (h : Whole w g cur t) (o : Nat) : w.frozen? ⟨g, o, none⟩ = false := by
  unfold Whole at h
  simp [World.frozen?, h]
theorem Whole.lt {w : World} {g : Nat} {cur : List Value} {t : TypeId} (h : Whole w g cur t) : g < w.heap.size := (Array.getElem?_eq_some_iff.1 h).1

section
variable {P : Program} {w : World} {ops : Array Oper} {rest : List Oper} {o : Oper} {a : Act} {Q : Exit → Act → World → Prop}

/-- Guards: the next operation writes slot d; it is the store of slot y at slot x. -/
theorem at_slot (d : Nat) {op : Op} {t : TypeId} {pos : String} {af : Array Edge} {gd : Option (Nat × Bool)} (h : wpList P ops Q (⟨some d, op, t, pos, af, gd⟩ :: rest) a w) : wpList P ops Q (⟨some d, op, t, pos, af, gd⟩ :: rest) a w := h
theorem at_store (x y : Nat) {ty t : TypeId} {pos : String} {af : Array Edge} {gd : Option (Nat × Bool)} (h : wpList P ops Q (⟨none, .store ty (.tmp x) (.tmp y), t, pos, af, gd⟩ :: rest) a w) : wpList P ops Q (⟨none, .store ty (.tmp x) (.tmp y), t, pos, af, gd⟩ :: rest) a w := h

/-- 'make([]T, n)'. -/
theorem wpList_makeN (hg : o.guard = none) (l c : Operand) (t : TypeId) (hop : o.op = Op.makeSlice t l c)
    (e : TypeId) (i : TypeInfo) (z : Value) (sz by_ : Nat) (h1 : P.underlying t = some (.slice e)) (h2 : P.info? e = some i) (h3 : i.zero = some z) (h4 : i.size = sz) (h5 : i.bytes = by_)
    (kl kc : IntKind) (L C : Int) (n : Nat) (hl : a.eval l = .int kl L) (hc : a.eval c = .int kc C) (hL : L = (n : Int)) (hC : C = (n : Int)) (hb : by_ * n ≤ 281474976710656) (h63 : n ≤ 9223372036854775807)
    (h : ∀ w' cur, cur.length = n * sz → Whole w' w.heap.size cur e → Below w.heap.size w w' → w'.heap.size = w.heap.size + 1 → wpList P ops Q rest (a.put o.dst (.slice (some ⟨w.heap.size, 0, none⟩) n n)) w') :
    wpList P ops Q (o :: rest) a w := by
  refine wpList_plain hg fun K hK' => ?_
  subst hL hC
  have hb' : (i.bytes : Int) * (n : Int) ≤ 281474976710656 := by
    rw [h5, ← Int.natCast_mul]
    omega
  have hrun := run_make (P := P) w t e i z h1 h2 h3 kl kc n n (by omega) (by omega) hb' (by omega)
  simp only [Int.toNat_natCast] at hrun
  unfold Oper.wp
  simp [execOp, hop, hl, hc, hrun, Result.andThen]
  exact hK' _ _ (h _ (madeCells z.cells (n * i.size)).toList (by simp [size_madeCells, h4]) (by unfold Whole; rw [heap_alloc_new]) (gNew _ _) (by simp))

/-- 'copy(d, s)'. -/
theorem wpList_copyN (hgd : o.guard = none) (d s : Operand) (dT sT : TypeId) (ho : o.op = .call { callee := .builtin .copy, args := #[d, s], argTypes := #[dT, sT] })
    (elem : TypeId) (sz : Nat) (hu : P.underlying dT = some (.slice elem)) (hsz : (P.info? elem).map (·.size) = some sz)
    (dp sp : Option Addr) (dLen dCap sLen sCap : Nat) (hd : a.eval d = .slice dp dLen dCap) (hs : a.eval s = .slice sp sLen sCap)
    (g off : Nat) (cur : List Value) (t : TypeId) (hg : Whole w g cur t) (m : Nat) (hm : m = Nat.min sLen dLen) (cs : List Value) (hcs : cs.length = m * sz)
    (hpos : 0 < m → dp = some ⟨g, off, none⟩ ∧ ∃ b so, sp = some ⟨b, so, none⟩ ∧ Row w b so cs)
    (hfit : off + cs.length ≤ cur.length) (h1 : ∀ v ∈ cs, v.oneCell' = true)
    (h : ∀ w', Whole w' g (splice cur off cs) t → Upd g w w' → wpList P ops Q rest (a.put o.dst (goInt m)) w') : wpList P ops Q (o :: rest) a w := by
  refine wpList_plain hgd fun K hK => ?_
  cases hq : P.info? elem with
  | none => simp [hq] at hsz
  | some i =>
    have hi : i.size = sz := by simpa [hq] using hsz
    by_cases h0 : m = 0
    · subst h0
      obtain rfl : cs = [] := List.eq_nil_of_length_eq_zero (by simpa using hcs)
      have hl := run_loadCells_list (P := P) w
      have hrun : (Builtin.copy_ #[dT, sT] o.type #[.slice dp dLen dCap, .slice sp sLen sCap]).run P w = .ok (goInt 0) w := by
        have e : Nat.min sLen dLen = 0 := hm.symm
        cases dp <;> cases sp <;> simp [Builtin.copy_, run_underlying hu, Builtin.lenOf, Builtin.firstCells, sizeOf, typeInfo, hq, e, loadCells, loadCellsFrom, storeCells]
      unfold Oper.wp
      simp [execOp, ho, resolve, invoke, builtin, hd, hs, hrun, Result.andThen]
      exact hK _ _ (h w (by simpa [splice] using hg) (Upd.refl g w))
    · obtain ⟨rfl, b, so, rfl, hR⟩ := hpos (by omega)
      have hl := run_loadCells_list (P := P) w ⟨b, so, none⟩ cs (fun j v hj => by rw [Addr.add_lit]; exact hR j v hj)
      have hst := run_storeCells_at P g off t cs 0 cur.toArray w hg (by simpa using hfit) h1
      have hrun : (Builtin.copy_ #[dT, sT] o.type #[.slice (some ⟨g, off, none⟩) dLen dCap, .slice (some ⟨b, so, none⟩) sLen sCap]).run P w =
          .ok (goInt m) (w.setRow g (splice cur off cs).toArray) := by
        simp [splice, Builtin.copy_, run_underlying hu, Builtin.lenOf, Builtin.firstCells, sizeOf, typeInfo, hq, hi, ← hm, ← hcs, hl, hst]
      unfold Oper.wp
      simp only [execOp, ho, resolve, invoke, builtin, Sem.run_bind, Sem.run_pure, Result.andThen_ok, List.map_toArray, List.map_cons, List.map_nil, hd, hs, hrun]
      have hh : Whole (w.setRow g (splice cur off cs).toArray) g (splice cur off cs) t := by
        unfold Whole
        rw [setRow_heap w g _ _ t _ hg]
      exact hK _ _ (h _ hh (upd_setRow _ _ _))

/-- The store of an element: its cells go into the row from off on. -/
theorem wpList_storeN (hgd : o.guard = none) (ty : TypeId) (x y : Operand) (ho : o.op = .store ty x y)
    (g off : Nat) (cells : Array Value) (hx : a.eval x = .pointer (some ⟨g, off, none⟩)) (hy : a.eval y = .agg cells) (cur : List Value) (t : TypeId) (hg : Whole w g cur t)
    (hi : (P.info? ty).map (·.size) = some cells.size) (hfit : off + cells.size ≤ cur.length) (h1 : ∀ v ∈ cells.toList, v.oneCell' = true)
    (h : ∀ w', Whole w' g (splice cur off cells.toList) t → Upd g w w' → wpList P ops Q rest (a.put o.dst undef) w') : wpList P ops Q (o :: rest) a w := by
  refine wpList_plain hgd fun K hK => ?_
  have hst := run_storeCells_at P g off t cells.toList 0 cur.toArray w hg (by simpa using hfit) h1
  cases hq : P.info? ty with
  | none => simp [hq] at hi
  | some i =>
    have hs : cells.size = i.size := by simp [hq] at hi; omega
    have hrun : (storeVar ty ⟨g, off, none⟩ (.agg cells)).run P w = .ok () (w.setRow g (cur.take off ++ cells.toList ++ cur.drop (off + cells.toList.length)).toArray) := by
      simp only [Nat.add_zero] at hst
      simp [storeVar, sizeOf, typeInfo, hq, Value.cells, hs]
      simpa [hs] using hst
    unfold Oper.wp execOp
    simp only [ho, hx, hy, Instr.storeAt, Instr.sureAddr, Sem.run_bind, Sem.run_pure, Result.andThen_ok, hrun]
    have hh : Whole (w.setRow g (cur.take off ++ cells.toList ++ cur.drop (off + cells.toList.length)).toArray) g (splice cur off cells.toList) t := by
      unfold Whole
      rw [setRow_heap w g _ _ t _ hg]
      simp [splice]
    exact hK _ _ (h _ hh (upd_setRow _ _ _))
end

/-- 'xs[i:]': the address under a name of its own (Go does not point behind an array's end). -/
theorem slice_from {P : Program} (t e : TypeId) (sz : Nat) (ht : P.underlying t = some (.slice e)) (hsz : (P.info? e).map (·.size) = some sz) (b o len cap i : Nat) (j : Int) (hj : j = (i : Int)) (hi : i ≤ len) (hlc : len ≤ cap) :
    ∃ D : Option Addr, (i < len → D = some ⟨b, o + i * sz, none⟩) ∧ ∀ W, (Instr.slice t (.slice (some ⟨b, o, none⟩) len cap) (some (.int .i64 j)) none none).run P W = .ok (.slice D (len - i) (cap - i)) W := by
  subst hj
  have he : P.elem t = e := by simp [Program.elem, ht]
  have ht' : P.underlying t = some (.slice (P.elem t)) := by rw [he]; exact ht
  cases hq : P.info? e with
  | none => simp [hq] at hsz
  | some i0 =>
    have hs : i0.size = sz := by simpa [hq] using hsz
    refine ⟨if cap = i then some ⟨b, o, none⟩ else some ⟨b, o + i * sz, none⟩, fun h => by rw [if_neg (by omega)], fun W => ?_⟩
    rw [run_slice_l W t _ len cap ht' .i64 (i : Int) (by omega) (by omega), he]
    simp only [sizeOf, typeInfo, hq, hs, sliced, Int.toNat_natCast]
    simp [hq, hs, Result.andThen, Addr.add_lit]

/-! ### Rows that are filled piece by piece -/

theorem splice_len {α : Type} {L : List α} {off : Nat} {cs : List α} (h : off + cs.length ≤ L.length) : (splice L off cs).length = L.length := length_splice L off cs h

theorem splice_two {α : Type} {cur A B : List α} (hl : cur.length = A.length + B.length) : splice (splice cur 0 A) A.length B = A ++ B := by
  have h1 : splice cur 0 A = A ++ cur.drop A.length := by simp [splice]
  rw [h1]
  unfold splice
  rw [List.take_left, List.drop_of_length_le (by simp; omega)]
  simp

/-- A new row into which what lies ahead, the new thing, and what lies behind are laid. -/
theorem splice3 {α : Type} {cur A x B : List α} (hl : cur.length = A.length + x.length + B.length) :
    splice (splice (splice cur 0 A) A.length x) (A.length + x.length) B = A ++ x ++ B := by
  have h1 : splice cur 0 A = A ++ cur.drop A.length := by simp [splice]
  have h2 : splice (A ++ cur.drop A.length) A.length x = A ++ (x ++ cur.drop (A.length + x.length)) := by
    unfold splice
    rw [List.take_left, List.drop_append, List.drop_of_length_le (by omega), Nat.add_sub_cancel_left, List.drop_drop]
    simp
  rw [h1, h2]
  unfold splice
  have h3 : A ++ (x ++ cur.drop (A.length + x.length)) = (A ++ x) ++ cur.drop (A.length + x.length) := by simp
  have h4 : A.length + x.length = (A ++ x).length := by simp
  rw [h3, show (A ++ x ++ cur.drop (A.length + x.length)).take (A.length + x.length) = A ++ x by rw [h4]; exact List.take_left, List.drop_of_length_le (by simp; omega)]
  simp

theorem splice_at {α : Type} {P m Q y : List α} {n : Nat} (hn : P.length = n) (h : m.length = y.length) : splice (P ++ m ++ Q) n y = P ++ y ++ Q := by
  subst hn
  unfold splice
  rw [List.append_assoc, List.take_left, List.drop_append, List.drop_of_length_le (by omega), Nat.add_sub_cancel_left, List.nil_append, List.drop_append, List.drop_of_length_le (by omega), ← h, Nat.sub_self]
  simp

/-- A row with one place more: what lies ahead, room for one thing, what lay behind; then two things over the room and the first of these. -/
theorem splice4 {α : Type} {cur A x B y z : List α} {n k : Nat} (hA : A.length = n) (hx : x.length = k) (hy : y.length = k) (hz : z.length = k) (hl : cur.length = n + k + k + B.length) :
    splice (splice (splice (splice cur 0 A) (n + k) (x ++ B)) n y) (n + k) z = A ++ y ++ z ++ B := by
  have h1 : splice cur 0 A = (A ++ (cur.drop n).take k) ++ (cur.drop n).drop k ++ [] := by
    have : splice cur 0 A = A ++ cur.drop A.length := by simp [splice]
    rw [this, hA, List.append_nil, List.append_assoc, List.take_append_drop]
  rw [h1, splice_at (P := A ++ (cur.drop n).take k) (by simp [hA]; omega) (by simp; omega)]
  rw [show A ++ (cur.drop n).take k ++ (x ++ B) ++ [] = A ++ (cur.drop n).take k ++ (x ++ B) by simp]
  rw [splice_at hA (by simp [hy]; omega)]
  rw [show A ++ y ++ (x ++ B) = (A ++ y) ++ x ++ B by simp]
  rw [splice_at (P := A ++ y) (by simp [hA, hy]) (by rw [hx, hz])]

/-- A copy of a row in which one thing is put in another's place. -/
theorem splice2 {α : Type} {cur L x : List α} {n : Nat} (hl : cur.length = L.length) (hn : n + x.length ≤ L.length) : splice (splice cur 0 L) n x = L.take n ++ x ++ L.drop (n + x.length) := by
  have h1 : splice cur 0 L = L := by simp [splice, ← hl]
  rw [h1]
  simp [splice]

/-! ### What may have turned: block r alone, of those that were there -/

theorem frm_below {r : Nat} {w a b : World} (h : w.grownBy a (some r)) (k : Below a.heap.size a b) : w.grownBy b (some r) :=
  ⟨k.os.trans h.os, k.tape.trans h.tape, k.output.trans h.output, Nat.le_trans h.size k.size, fun i hi hne => (k.block i (Nat.lt_of_lt_of_le hi h.size)).trans (h.block i hi hne)⟩
theorem frm_of {r : Nat} {w a : World} (h : Below w.heap.size w a) : w.grownBy a (some r) := ⟨h.os, h.tape, h.output, h.size, fun i hi _ => h.block i hi⟩
theorem frm_set {r : Nat} {w a : World} (h : w.grownBy a (some r)) (o : Nat) (v : Value) : w.grownBy (a.setCell ⟨r, o, none⟩ v) (some r) :=
  ⟨h.os, h.tape, h.output, by simpa [World.setCell] using h.size, fun i hi hne => (Below.heap_setCell a _ v i (fun e => hne (by rw [e]))).trans (h.block i hi hne)⟩
theorem frm_upd {r g : Nat} {w a b : World} (h : w.grownBy a (some r)) (k : Upd g a b) (hg : w.heap.size ≤ g) : w.grownBy b (some r) :=
  ⟨k.by_.os.trans h.os, k.by_.tape.trans h.tape, k.by_.output.trans h.output, by rw [k.size]; exact h.size, fun i hi hne => (k.heap (by omega)).trans (h.block i hi hne)⟩
theorem frm_alloc {r : Nat} {w a : World} (h : w.grownBy a (some r)) (o : Obj) : w.grownBy (a.alloc o) (some r) := frm_below h (gNew a o)

theorem set_cell {w : World} {r o : Nat} {v u : Value} {p : Addr} (hp : p.block ≠ r) (h : w.cell? p = some u) : (w.setCell ⟨r, o, none⟩ v).cell? p = some u :=
  cell_block (Below.heap_setCell w _ v p.block hp) h
theorem set_row {w : World} {r o b c : Nat} {v : Value} {cs : List Value} (hp : b ≠ r) (h : Row w b c cs) : Row (w.setCell ⟨r, o, none⟩ v) b c cs := h.of_block (Below.heap_setCell w _ v b hp)
theorem set_same {w : World} {r o : Nat} {v u : Value} (h : w.cell? ⟨r, o, none⟩ = some u) : (w.setCell ⟨r, o, none⟩ v).cell? ⟨r, o, none⟩ = some v := World.cell?_setCell_same w _ v h
theorem set_frozen (w : World) (r o : Nat) (v : Value) (p : Addr) : (w.setCell ⟨r, o, none⟩ v).frozen? p = w.frozen? p := by simp
theorem set_size (w : World) (a : Addr) (v : Value) : (w.setCell a v).heap.size = w.heap.size := by simp [World.setCell]
theorem gFrozen {w w' : World} (h : Below w.heap.size w w') {p : Addr} (hp : p.block < w.heap.size) (hf : w.frozen? p = false) : w'.frozen? p = false := by rw [h.frozen hp]; exact hf

/-- The blocks of S, and those that are new in w'. -/
def Plus (S : Nat → Prop) (w w' : World) (b : Nat) : Prop := S b ∨ (w.heap.size ≤ b ∧ b < w'.heap.size)

/-- What the setting of a key leaves: l' is the new content, f the potential that was. -/
def SetRes {κ : Type} (I : Inst κ) (w : World) (S : Nat → Prop) (r : Nat) (b : Bool) (h : Nat) (l' : List (κ × Int)) (f : Nat) (e : Ending) (w' : World) : Prop :=
  w.grownBy w' (some r) ∧ w'.cell? ⟨r, 0, none⟩ = some (.bool b) ∧ w'.frozen? ⟨r, 0, none⟩ = false ∧
  ((∃ (nv : Value) (f1 : Nat), e = .returned (.tuple #[nv, .nilIface]) ∧ Node I w' (Plus S w w') h nv l' f1 ∧ f1 ≤ f + 1) ∨
   (∃ (nv sv : Value) (l1 l2 : List (κ × Int)) (f1 f2 : Nat), e = .returned (.tuple #[nv, sv]) ∧ l1 ++ l2 = l' ∧ Node I w' (Plus S w w') h nv l1 f1 ∧ Node I w' (Plus S w w') h sv l2 f2 ∧ f1 + f2 + 16 ^ (h + 1) ≤ f + 1))

/-- What the taking out of a key leaves: v0: the node that was; hs: was the key there; l' the new content, f the potential that was. -/
def DelRes {κ : Type} (I : Inst κ) (w : World) (S : Nat → Prop) (r : Nat) (b : Bool) (h : Nat) (v0 : Value) (hs : Bool) (l' : List (κ × Int)) (f : Nat) (e : Ending) (w' : World) : Prop :=
  w.grownBy w' (some r) ∧ w'.cell? ⟨r, 0, none⟩ = some (.bool b) ∧ w'.frozen? ⟨r, 0, none⟩ = false ∧
  ((hs = false ∧ e = .returned v0) ∨ (hs = true ∧ l' = [] ∧ e = .returned .nilIface) ∨
   (hs = true ∧ ∃ (nv : Value) (f1 : Nat), e = .returned nv ∧ Node I w' (Plus S w w') h nv l' f1 ∧ f1 ≤ f))

theorem cell_new (w : World) (v : Value) (t : TypeId) : (w.alloc (.cells #[v] t)).cell? ⟨w.heap.size, 0, none⟩ = some v := by
  rw [World.cell?_alloc_at _ _ _ _ (by simp)]; rfl
theorem alloc_cell {w : World} {p : Addr} {v : Value} (o : Obj) (h : w.cell? p = some v) : (w.alloc o).cell? p = some v := gCell (gNew w o) h
theorem alloc_frozen {w : World} {p : Addr} (o : Obj) {v : Value} (h : w.cell? p = some v) (hf : w.frozen? p = false) : (w.alloc o).frozen? p = false := gFrozen (gNew w o) (World.block_lt_of_cell? w p h) hf

theorem Whole.row_at {w : World} {g o : Nat} {cur cs : List Value} {t : TypeId} (h : Whole w g cur t) (hd : cur.drop o = cs) : Row w g o cs := by
  have := h.row.drop o
  rw [hd, Nat.zero_add] at this
  exact this

/-- A leaf in a new block over a row that is known whole. -/
theorem leaf_new {κ : Type} {I : Inst κ} {w : World} {S : Nat → Prop} {a g o cap : Nat} {l : List (κ × Int)} {cs : Array Value} {fr : Nat × Nat} (ha : w.cell? ⟨a, 0, none⟩ = some (.slice (some ⟨g, o, none⟩) l.length cap))
    (hR : Row w g o (l.flatMap I.ent)) (hE : w.heap[g]? = some (.cells cs I.te fr)) (hSa : S a) (hSg : S g) (hc : l.length ≤ cap) (hc2 : cap ≤ 40) (h0 : 0 < l.length) (h32 : l.length ≤ 32) :
    Node I w S 0 (.iface I.leaf (.pointer (some ⟨a, 0, none⟩))) l (l.length - 17) :=
  ⟨a, g, o, cap, rfl, hSa, hSg, ha, hc, hc2, h0, h32, rfl, hR, cs, fr, hE⟩

theorem close1 {κ : Type} {I : Inst κ} {w w6 : World} {S : Nat → Prop} {r : Nat} {b : Bool} {f g : Nat} {l' : List (κ × Int)} {n : Nat} {t : TypeId} (hF : w.grownBy w6 (some r)) (hr : w6.cell? ⟨r, 0, none⟩ = some (.bool b)) (hf : w6.frozen? ⟨r, 0, none⟩ = false)
    (hW : Whole w6 g (l'.flatMap I.ent) I.te) (hg : w.heap.size ≤ g) (hn : l'.length = n) (h0 : 0 < n) (h32 : n ≤ 32) (hp : n - 17 ≤ f + 1) :
    SetRes I w S r b 0 l' f (.returned (.tuple #[.iface I.leaf (.pointer (some ⟨w6.heap.size, 0, none⟩)), .nilIface])) (w6.alloc (.cells #[.slice (some ⟨g, 0, none⟩) n n] t)) := by
  have hz := hF.size
  have hgl := hW.lt
  have hW' := hW.grow (gNew w6 (.cells #[.slice (some ⟨g, 0, none⟩) n n] t))
  subst hn
  exact ⟨frm_alloc hF _, alloc_cell _ hr, alloc_frozen _ hr hf, .inl ⟨_, _, rfl, leaf_new (cell_new _ _ _) (hW'.row) hW' (.inr ⟨hz, by simp⟩) (.inr ⟨hg, by simp; omega⟩) (Nat.le_refl _) (by omega) h0 h32, hp⟩⟩

theorem closeD {κ : Type} {I : Inst κ} {w w6 : World} {S : Nat → Prop} {r : Nat} {b : Bool} {v0 : Value} {f g a : Nat} {l' : List (κ × Int)} {n : Nat} (hF : w.grownBy w6 (some r)) (hr : w6.cell? ⟨r, 0, none⟩ = some (.bool b)) (hf : w6.frozen? ⟨r, 0, none⟩ = false)
    (hW : Whole w6 g (l'.flatMap I.ent) I.te) (hg : w.heap.size ≤ g) (ha : w6.cell? ⟨a, 0, none⟩ = some (.slice (some ⟨g, 0, none⟩) n n)) (hga : w.heap.size ≤ a) (hn : l'.length = n) (h0 : 0 < n) (h32 : n ≤ 32) (hp : n - 17 ≤ f) :
    DelRes I w S r b 0 v0 true l' f (.returned (.iface I.leaf (.pointer (some ⟨a, 0, none⟩)))) w6 := by
  have hgl := hW.lt
  have hal := World.block_lt_of_cell? w6 _ ha
  subst hn
  exact ⟨hF, hr, hf, .inr (.inr ⟨rfl, _, _, rfl, leaf_new ha hW.row hW (.inr ⟨hga, hal⟩) (.inr ⟨hg, hgl⟩) (Nat.le_refl _) (by omega) h0 h32, hp⟩)⟩

theorem close2 {κ : Type} {I : Inst κ} {w w6 : World} {S : Nat → Prop} {r : Nat} {b : Bool} {f g sz : Nat} {l' : List (κ × Int)} {t : TypeId} (hsz : ∀ p, (I.ent p).length = sz) (hF : w.grownBy w6 (some r)) (hr : w6.cell? ⟨r, 0, none⟩ = some (.bool b)) (hf : w6.frozen? ⟨r, 0, none⟩ = false)
    (hW : Whole w6 g (l'.flatMap I.ent) I.te) (hg : w.heap.size ≤ g) (hn : l'.length = 33) (hp : 15 ≤ f) :
    SetRes I w S r b 0 l' f (.returned (.tuple #[.iface I.leaf (.pointer (some ⟨w6.heap.size, 0, none⟩)), .iface I.leaf (.pointer (some ⟨w6.heap.size + 1, 0, none⟩))]))
      ((w6.alloc (.cells #[.slice (some ⟨g, 0, none⟩) 16 16] t)).alloc (.cells #[.slice (some ⟨g, 16 * sz, none⟩) 17 17] t)) := by
  have hz := hF.size
  have hgl := hW.lt
  have hW' := (hW.grow (gNew w6 (.cells #[.slice (some ⟨g, 0, none⟩) 16 16] t))).grow (gNew _ (.cells #[.slice (some ⟨g, 16 * sz, none⟩) 17 17] t))
  have e1 : (l'.take 16).length = 16 := by simp [hn]
  have e2 : (l'.drop 16).length = 17 := by simp [hn]
  have n1 : Node I ((w6.alloc (.cells #[.slice (some ⟨g, 0, none⟩) 16 16] t)).alloc (.cells #[.slice (some ⟨g, 16 * sz, none⟩) 17 17] t)) (Plus S w ((w6.alloc (.cells #[.slice (some ⟨g, 0, none⟩) 16 16] t)).alloc (.cells #[.slice (some ⟨g, 16 * sz, none⟩) 17 17] t))) 0
      (.iface I.leaf (.pointer (some ⟨w6.heap.size, 0, none⟩))) (l'.take 16) ((l'.take 16).length - 17) := by
    refine leaf_new (cap := 16) (by rw [e1]; exact alloc_cell _ (cell_new _ _ _)) ?_ hW' (.inr ⟨hz, by simp; omega⟩) (.inr ⟨hg, by simp; omega⟩) (by omega) (by omega) (by omega) (by omega)
    rw [← flat_take hsz]
    exact hW'.row.take _
  have n2 : Node I ((w6.alloc (.cells #[.slice (some ⟨g, 0, none⟩) 16 16] t)).alloc (.cells #[.slice (some ⟨g, 16 * sz, none⟩) 17 17] t)) (Plus S w ((w6.alloc (.cells #[.slice (some ⟨g, 0, none⟩) 16 16] t)).alloc (.cells #[.slice (some ⟨g, 16 * sz, none⟩) 17 17] t))) 0
      (.iface I.leaf (.pointer (some ⟨w6.heap.size + 1, 0, none⟩))) (l'.drop 16) ((l'.drop 16).length - 17) := by
    refine leaf_new (g := g) (o := 16 * sz) (cap := 17) (by rw [e2]; simp) ?_ hW' (.inr ⟨by omega, by simp⟩) (.inr ⟨hg, by simp; omega⟩) (by omega) (by omega) (by omega) (by omega)
    exact hW'.row_at (flat_drop hsz _ _)
  rw [e1] at n1
  rw [e2] at n2
  exact ⟨frm_alloc (frm_alloc hF _) _, alloc_cell _ (alloc_cell _ hr), alloc_frozen _ (alloc_cell _ hr) (alloc_frozen _ hr hf), .inr ⟨_, _, l'.take 16, l'.drop 16, 0, 0, rfl, List.take_append_drop _ _, n1, n2, by simp; omega⟩⟩

/-! ### Branches -/

/-- A branch in a new block over a row that is known. -/
theorem branch_new {κ : Type} {I : Inst κ} {w : World} {S : Nat → Prop} {h a g o cap : Nat} {ks : List (Kid κ)} (ha : w.cell? ⟨a, 0, none⟩ = some (.slice (some ⟨g, o, none⟩) ks.length cap))
    (hR : Row w g o (ks.flatMap fun c => [keyOf I c.l, c.v])) (hSa : S a) (hSg : S g) (hc : ks.length ≤ cap) (hc2 : cap ≤ 40) (h0 : 0 < ks.length) (h32 : ks.length ≤ 32) (hk : ∀ c ∈ ks, Node I w S h c.v c.l c.f) :
    Node I w S (h + 1) (.iface I.branch (.pointer (some ⟨a, 0, none⟩))) (ks.map (·.l)).flatten ((ks.map (·.f)).sum + 16 ^ (h + 1) * (ks.length - 17)) :=
  ⟨a, g, o, cap, ks, rfl, hSa, hSg, ha, hc, hc2, h0, h32, rfl, rfl, hR, hk⟩

theorem kids_split {κ : Type} {ks : List (Kid κ)} {q : Nat} {c : Kid κ} (h : ks[q]? = some c) : ks = ks.take q ++ c :: ks.drop (q + 1) := by
  obtain ⟨hl, rfl⟩ := List.getElem?_eq_some_iff.1 h
  rw [← List.drop_eq_getElem_cons hl, List.take_append_drop]

theorem pow_pos16 (n : Nat) : 0 < 16 ^ n := Nat.pow_pos (by decide)

/-- One kid in a kid's place. -/
theorem bclose1 {κ : Type} {I : Inst κ} {w w6 : World} {S : Nat → Prop} {r : Nat} {b : Bool} {h g a : Nat} {ks : List (Kid κ)} {q : Nat} {c c1 : Kid κ} {t : TypeId} {A B l' : List (κ × Int)} (hF : w.grownBy w6 (some r)) (hr : w6.cell? ⟨r, 0, none⟩ = some (.bool b)) (hf : w6.frozen? ⟨r, 0, none⟩ = false)
    (hW : Whole w6 g ((ks.take q ++ c1 :: ks.drop (q + 1)).flatMap fun c => [keyOf I c.l, c.v]) t) (hg : w.heap.size ≤ g) (ha : w6.cell? ⟨a, 0, none⟩ = some (.slice (some ⟨g, 0, none⟩) ks.length ks.length)) (hga : w.heap.size ≤ a)
    (hq : ks[q]? = some c) (h32 : ks.length ≤ 32) (hkids : ∀ c ∈ ks, Node I w6 (Plus S w w6) h c.v c.l c.f) (hk1 : Node I w6 (Plus S w w6) h c1.v c1.l c1.f) (hp : c1.f ≤ c.f + 1)
    (hA : A = ((ks.take q).map (·.l)).flatten) (hB : B = ((ks.drop (q + 1)).map (·.l)).flatten) (hl : l' = A ++ c1.l ++ B) :
    SetRes I w S r b (h + 1) l' ((ks.map (·.f)).sum + 16 ^ (h + 1) * (ks.length - 17)) (.returned (.tuple #[.iface I.branch (.pointer (some ⟨a, 0, none⟩)), .nilIface])) w6 := by
  have hgl := hW.lt
  have hal := World.block_lt_of_cell? w6 _ ha
  have hql := (List.getElem?_eq_some_iff.1 hq).1
  have hsp := kids_split hq
  have hlen : (ks.take q ++ c1 :: ks.drop (q + 1)).length = ks.length := by simp; omega
  have hn := branch_new (I := I) (S := Plus S w w6) (h := h) (cap := ks.length) (by rw [hlen]; exact ha) hW.row (.inr ⟨hga, hal⟩) (.inr ⟨hg, hgl⟩) (by omega) (by omega) (by omega) (by omega) (by
    intro x hx
    rcases List.mem_append.1 hx with hx | hx
    · exact hkids x (List.mem_of_mem_take hx)
    · rcases List.mem_cons.1 hx with rfl | hx
      · exact hk1
      · exact hkids x (List.mem_of_mem_drop hx))
  rw [hlen] at hn
  have el : ((ks.take q ++ c1 :: ks.drop (q + 1)).map (·.l)).flatten = l' := by rw [hl, hA, hB]; simp
  rw [el] at hn
  refine ⟨hF, hr, hf, .inl ⟨_, _, rfl, hn, ?_⟩⟩
  have e1 : (ks.map (·.f)).sum = ((ks.take q).map (·.f)).sum + c.f + ((ks.drop (q + 1)).map (·.f)).sum := by
    have h0 : (ks.map (·.f)).sum = ((ks.take q ++ c :: ks.drop (q + 1)).map (·.f)).sum := by rw [← hsp]
    rw [h0]; simp [List.sum_append]; omega
  have e2 : ((ks.take q ++ c1 :: ks.drop (q + 1)).map (·.f)).sum = ((ks.take q).map (·.f)).sum + c1.f + ((ks.drop (q + 1)).map (·.f)).sum := by simp [List.sum_append]; omega
  rw [e1, e2]
  omega

/-- Two kids in a kid's place; the branch is whole. -/
theorem bclose2 {κ : Type} {I : Inst κ} {w w6 : World} {S : Nat → Prop} {r : Nat} {b : Bool} {h g a : Nat} {ks : List (Kid κ)} {q : Nat} {c c1 c2 : Kid κ} {t : TypeId} {A B l' : List (κ × Int)} (hF : w.grownBy w6 (some r)) (hr : w6.cell? ⟨r, 0, none⟩ = some (.bool b)) (hf : w6.frozen? ⟨r, 0, none⟩ = false)
    (hW : Whole w6 g ((ks.take q ++ c1 :: c2 :: ks.drop (q + 1)).flatMap fun c => [keyOf I c.l, c.v]) t) (hg : w.heap.size ≤ g) (ha : w6.cell? ⟨a, 0, none⟩ = some (.slice (some ⟨g, 0, none⟩) (ks.length + 1) (ks.length + 1))) (hga : w.heap.size ≤ a)
    (hq : ks[q]? = some c) (h32 : ks.length < 32) (hkids : ∀ c ∈ ks, Node I w6 (Plus S w w6) h c.v c.l c.f) (hk1 : Node I w6 (Plus S w w6) h c1.v c1.l c1.f) (hk2 : Node I w6 (Plus S w w6) h c2.v c2.l c2.f) (hp : c1.f + c2.f + 16 ^ (h + 1) ≤ c.f + 1)
    (hA : A = ((ks.take q).map (·.l)).flatten) (hB : B = ((ks.drop (q + 1)).map (·.l)).flatten) (hl : l' = A ++ (c1.l ++ c2.l) ++ B) :
    SetRes I w S r b (h + 1) l' ((ks.map (·.f)).sum + 16 ^ (h + 1) * (ks.length - 17)) (.returned (.tuple #[.iface I.branch (.pointer (some ⟨a, 0, none⟩)), .nilIface])) w6 := by
  have hgl := hW.lt
  have hal := World.block_lt_of_cell? w6 _ ha
  have hql := (List.getElem?_eq_some_iff.1 hq).1
  have hsp := kids_split hq
  have hlen : (ks.take q ++ c1 :: c2 :: ks.drop (q + 1)).length = ks.length + 1 := by simp; omega
  have hn := branch_new (I := I) (S := Plus S w w6) (h := h) (cap := ks.length + 1) (by rw [hlen]; exact ha) hW.row (.inr ⟨hga, hal⟩) (.inr ⟨hg, hgl⟩) (by omega) (by omega) (by omega) (by omega) (by
    intro x hx
    rcases List.mem_append.1 hx with hx | hx
    · exact hkids x (List.mem_of_mem_take hx)
    · rcases List.mem_cons.1 hx with rfl | hx
      · exact hk1
      · rcases List.mem_cons.1 hx with rfl | hx
        · exact hk2
        · exact hkids x (List.mem_of_mem_drop hx))
  rw [hlen] at hn
  have el : ((ks.take q ++ c1 :: c2 :: ks.drop (q + 1)).map (·.l)).flatten = l' := by rw [hl, hA, hB]; simp
  rw [el] at hn
  refine ⟨hF, hr, hf, .inl ⟨_, _, rfl, hn, ?_⟩⟩
  have e1 : (ks.map (·.f)).sum = ((ks.take q).map (·.f)).sum + c.f + ((ks.drop (q + 1)).map (·.f)).sum := by
    have h0 : (ks.map (·.f)).sum = ((ks.take q ++ c :: ks.drop (q + 1)).map (·.f)).sum := by rw [← hsp]
    rw [h0]; simp [List.sum_append]; omega
  have e2 : ((ks.take q ++ c1 :: c2 :: ks.drop (q + 1)).map (·.f)).sum = ((ks.take q).map (·.f)).sum + c1.f + c2.f + ((ks.drop (q + 1)).map (·.f)).sum := by simp [List.sum_append]; omega
  rw [e1, e2]
  have e3 : 16 ^ (h + 1) * (ks.length + 1 - 17) ≤ 16 ^ (h + 1) * (ks.length - 17) + 16 ^ (h + 1) := by
    rw [← Nat.mul_succ]; exact Nat.mul_le_mul_left _ (by omega)
  omega

/-- A node stays where the world grows. -/
theorem Node.plus {κ : Type} {I : Inst κ} {w a b : World} {S : Nat → Prop} (hS : ∀ x, S x → x < w.heap.size) (hwa : w.heap.size ≤ a.heap.size) (hB : Below a.heap.size a b) {h : Nat} {v : Value} {l : List (κ × Int)} {f : Nat}
    (hn : Node I a (Plus S w a) h v l f) : Node I b (Plus S w b) h v l f :=
  hn.keep (fun x hx => hx.imp id fun ⟨h1, h2⟩ => ⟨h1, Nat.lt_of_lt_of_le h2 hB.size⟩) fun x hx => hB.block x (by
    rcases hx with hx | ⟨_, hx⟩
    · have := hS x hx; omega
    · exact hx)

/-- What the child's set leaves in the branch's two slots. -/
def Kids {κ : Type} (I : Inst κ) (w : World) (S : Nat → Prop) (r : Nat) (b : Bool) (h : Nat) (l' : List (κ × Int)) (x : Nat) (s15 s16 : Value) (w' : World) : Prop :=
  w.grownBy w' (some r) ∧ w'.cell? ⟨r, 0, none⟩ = some (.bool b) ∧ w'.frozen? ⟨r, 0, none⟩ = false ∧
  ((s16 = .nilIface ∧ ∃ f1, Node I w' (Plus S w w') h s15 l' f1 ∧ f1 ≤ x + 1) ∨
   (∃ (l1 l2 : List (κ × Int)) (f1 f2 : Nat), l1 ++ l2 = l' ∧ Node I w' (Plus S w w') h s15 l1 f1 ∧ Node I w' (Plus S w w') h s16 l2 f2 ∧ f1 + f2 + 16 ^ (h + 1) ≤ x + 1))

theorem kids_of {κ : Type} {I : Inst κ} {w W w' : World} {S : Nat → Prop} {r : Nat} {b : Bool} {h : Nat} {l' : List (κ × Int)} {x : Nat} {e : Ending} (hW : Below w.heap.size w W) (hs : SetRes I W S r b h l' x e w') :
    ∃ s15 s16, e = .returned (.tuple #[s15, s16]) ∧ Kids I w S r b h l' x s15 s16 w' := by
  obtain ⟨h1, h2, h3, h4⟩ := hs
  have hF : w.grownBy w' (some r) := ⟨h1.os.trans hW.os, h1.tape.trans hW.tape, h1.output.trans hW.output, Nat.le_trans hW.size h1.size, fun i hi hne => (h1.block i (Nat.lt_of_lt_of_le hi hW.size) hne).trans (hW.block i hi)⟩
  have hP : ∀ y, Plus S W w' y → Plus S w w' y := fun y hy => hy.imp id fun ⟨h5, h6⟩ => ⟨Nat.le_trans hW.size h5, h6⟩
  rcases h4 with ⟨nv, f1, rfl, hn, hf⟩ | ⟨nv, sv, l1, l2, f1, f2, rfl, hl, hn1, hn2, hf⟩
  · exact ⟨_, _, rfl, hF, h2, h3, .inl ⟨rfl, f1, hn.keep hP (fun _ _ => rfl), hf⟩⟩
  · exact ⟨_, _, rfl, hF, h2, h3, .inr ⟨l1, l2, f1, f2, hl, hn1.keep hP (fun _ _ => rfl), hn2.keep hP (fun _ _ => rfl), hf⟩⟩

/-- Two kids in a kid's place; the branch splits. -/
theorem bclose3 {κ : Type} {I : Inst κ} {w w6 : World} {S : Nat → Prop} (hS : ∀ x, S x → x < w.heap.size) {r : Nat} {b : Bool} {h g : Nat} {ks : List (Kid κ)} {q : Nat} {c c1 c2 : Kid κ} {t T : TypeId} {A B l' : List (κ × Int)} (hF : w.grownBy w6 (some r)) (hr : w6.cell? ⟨r, 0, none⟩ = some (.bool b)) (hf : w6.frozen? ⟨r, 0, none⟩ = false)
    (hW : Whole w6 g ((ks.take q ++ c1 :: c2 :: ks.drop (q + 1)).flatMap fun c => [keyOf I c.l, c.v]) t) (hg : w.heap.size ≤ g)
    (hq : ks[q]? = some c) (h32 : ks.length = 32) (hkids : ∀ c ∈ ks, Node I w6 (Plus S w w6) h c.v c.l c.f) (hk1 : Node I w6 (Plus S w w6) h c1.v c1.l c1.f) (hk2 : Node I w6 (Plus S w w6) h c2.v c2.l c2.f) (hp : c1.f + c2.f + 16 ^ (h + 1) ≤ c.f + 1)
    (hA : A = ((ks.take q).map (·.l)).flatten) (hB : B = ((ks.drop (q + 1)).map (·.l)).flatten) (hl : l' = A ++ (c1.l ++ c2.l) ++ B) :
    SetRes I w S r b (h + 1) l' ((ks.map (·.f)).sum + 16 ^ (h + 1) * (ks.length - 17))
      (.returned (.tuple #[.iface I.branch (.pointer (some ⟨w6.heap.size, 0, none⟩)), .iface I.branch (.pointer (some ⟨w6.heap.size + 1, 0, none⟩))]))
      ((w6.alloc (.cells #[.slice (some ⟨g, 0, none⟩) 16 16] T)).alloc (.cells #[.slice (some ⟨g, 16 * 2, none⟩) 17 17] T)) := by
  have hz := hF.size
  have hgl := hW.lt
  have hql := (List.getElem?_eq_some_iff.1 hq).1
  have hsp := kids_split hq
  generalize hks : ks.take q ++ c1 :: c2 :: ks.drop (q + 1) = ks' at *
  have hlen : ks'.length = 33 := by rw [← hks]; simp; omega
  have hB1 := gNew2 w6 (.cells #[.slice (some ⟨g, 0, none⟩) 16 16] T) (.cells #[.slice (some ⟨g, 16 * 2, none⟩) 17 17] T)
  have hW' := hW.grow hB1
  have hkid' : ∀ x ∈ ks', Node I ((w6.alloc (.cells #[.slice (some ⟨g, 0, none⟩) 16 16] T)).alloc (.cells #[.slice (some ⟨g, 16 * 2, none⟩) 17 17] T)) (Plus S w ((w6.alloc (.cells #[.slice (some ⟨g, 0, none⟩) 16 16] T)).alloc (.cells #[.slice (some ⟨g, 16 * 2, none⟩) 17 17] T))) h x.v x.l x.f := by
    have hkeep : ∀ x : Kid κ, Node I w6 (Plus S w w6) h x.v x.l x.f → Node I ((w6.alloc (.cells #[.slice (some ⟨g, 0, none⟩) 16 16] T)).alloc (.cells #[.slice (some ⟨g, 16 * 2, none⟩) 17 17] T)) (Plus S w ((w6.alloc (.cells #[.slice (some ⟨g, 0, none⟩) 16 16] T)).alloc (.cells #[.slice (some ⟨g, 16 * 2, none⟩) 17 17] T))) h x.v x.l x.f := by
      intro x hx
      exact hx.plus hS hz hB1
    intro x hx
    rw [← hks] at hx
    rcases List.mem_append.1 hx with hx | hx
    · exact hkeep x (hkids x (List.mem_of_mem_take hx))
    · rcases List.mem_cons.1 hx with rfl | hx
      · exact hkeep _ hk1
      · rcases List.mem_cons.1 hx with rfl | hx
        · exact hkeep _ hk2
        · exact hkeep x (hkids x (List.mem_of_mem_drop hx))
  have e16 : (ks'.take 16).length = 16 := by simp [hlen]
  have e17 : (ks'.drop 16).length = 17 := by simp [hlen]
  have n1 := branch_new (I := I) (h := h) (ks := ks'.take 16) (a := w6.heap.size) (cap := 16) (S := Plus S w ((w6.alloc (.cells #[.slice (some ⟨g, 0, none⟩) 16 16] T)).alloc (.cells #[.slice (some ⟨g, 16 * 2, none⟩) 17 17] T)))
    (w := (w6.alloc (.cells #[.slice (some ⟨g, 0, none⟩) 16 16] T)).alloc (.cells #[.slice (some ⟨g, 16 * 2, none⟩) 17 17] T)) (g := g) (o := 0)
    (by rw [e16]; exact alloc_cell _ (cell_new _ _ _)) (by rw [← flat_take (sz := 2) (fun _ => rfl)]; exact hW'.row.take _) (.inr ⟨hz, by simp; omega⟩) (.inr ⟨hg, by simp; omega⟩) (by omega) (by omega) (by omega) (by omega) (fun x hx => hkid' x (List.mem_of_mem_take hx))
  have n2 := branch_new (I := I) (h := h) (ks := ks'.drop 16) (a := w6.heap.size + 1) (cap := 17) (S := Plus S w ((w6.alloc (.cells #[.slice (some ⟨g, 0, none⟩) 16 16] T)).alloc (.cells #[.slice (some ⟨g, 16 * 2, none⟩) 17 17] T)))
    (w := (w6.alloc (.cells #[.slice (some ⟨g, 0, none⟩) 16 16] T)).alloc (.cells #[.slice (some ⟨g, 16 * 2, none⟩) 17 17] T)) (g := g) (o := 16 * 2)
    (by rw [e17]; simp) (hW'.row_at (flat_drop (sz := 2) (fun _ => rfl) _ _)) (.inr ⟨by omega, by simp⟩) (.inr ⟨hg, by simp; omega⟩) (by omega) (by omega) (by omega) (by omega) (fun x hx => hkid' x (List.mem_of_mem_drop hx))
  rw [e16] at n1
  rw [e17] at n2
  refine ⟨frm_alloc (frm_alloc hF _) _, alloc_cell _ (alloc_cell _ hr), alloc_frozen _ (alloc_cell _ hr) (alloc_frozen _ hr hf), .inr ⟨_, _, _, _, _, _, rfl, ?_, n1, n2, ?_⟩⟩
  · rw [← List.flatten_append, ← List.map_append, List.take_append_drop, ← hks, hl, hA, hB]; simp
  · have e1 : (ks.map (·.f)).sum = ((ks.take q).map (·.f)).sum + c.f + ((ks.drop (q + 1)).map (·.f)).sum := by
      have h0 : (ks.map (·.f)).sum = ((ks.take q ++ c :: ks.drop (q + 1)).map (·.f)).sum := by rw [← hsp]
      rw [h0]; simp [List.sum_append]; omega
    have e2 : ((ks'.take 16).map (·.f)).sum + ((ks'.drop 16).map (·.f)).sum = ((ks.take q).map (·.f)).sum + c1.f + c2.f + ((ks.drop (q + 1)).map (·.f)).sum := by
      rw [← List.sum_append, ← List.map_append, List.take_append_drop, ← hks]; simp [List.sum_append]; omega
    have e3 : 16 ^ (h + 1 + 1) = 16 ^ (h + 1) * 16 := Nat.pow_succ _ _
    simp only [h32]
    omega

end Go.Proofs.YtfejflhgaphilaaGreatDoor

namespace Go.Proofs.YtfejflhgaphilaaGreatDoor
open Go.RowKit

/-! ### A box that is made, and filled later -/

theorem box_new (w : World) (v : Value) (t : TypeId) : Whole (w.alloc (.cells #[v] t)) w.heap.size [v] t := by
  unfold Whole World.alloc
  exact Array.getElem?_push_size

/-- The box at the end of an earlier world is filled. -/
theorem box_set (w w3 : World) (v : Value) {u : Value} {g : Nat} {cur : List Value} {t : TypeId} (hB : Below w.heap.size w w3) (hW : Whole w3 g cur t) (hg : g = w.heap.size + 1) (hu : w3.cell? ⟨w.heap.size, 0, none⟩ = some u) :
    Below w.heap.size w (w3.setCell ⟨w.heap.size, 0, none⟩ v) ∧ Whole (w3.setCell ⟨w.heap.size, 0, none⟩ v) g cur t ∧ (w3.setCell ⟨w.heap.size, 0, none⟩ v).cell? ⟨w.heap.size, 0, none⟩ = some v := by
  refine ⟨⟨hB.os, hB.tape, hB.output, by rw [set_size]; exact hB.size, fun i hi => ?_⟩, ?_, set_same hu⟩
  · rw [Below.heap_setCell w3 _ v i (by simp; omega)]
    exact hB.block i hi
  · unfold Whole
    rw [Below.heap_setCell w3 _ v g (by simp; omega)]
    exact hW

theorem below_upd {B g : Nat} {w a b : World} (h : Below B w a) (k : Upd g a b) (hg : B ≤ g) : Below B w b :=
  ⟨k.by_.os.trans h.os, k.by_.tape.trans h.tape, k.by_.output.trans h.output, by rw [k.size]; exact h.size, fun i hi => (k.heap (by omega)).trans (h.block i hi)⟩
theorem below_drew {B : Nat} {w a : World} (h : Below B w a) : Below B w a.drew := ⟨h.os, h.tape, h.output, h.size, h.block⟩

end Go.Proofs.YtfejflhgaphilaaGreatDoor

namespace Go.Proofs.YtfejflhgaphilaaGreatDoor
open Go.RowKit

/-- What the child's delete leaves. -/
def KidD {κ : Type} (I : Inst κ) (w : World) (S : Nat → Prop) (r : Nat) (b : Bool) (h : Nat) (v0 : Value) (hs : Bool) (l' : List (κ × Int)) (x : Nat) (nv : Value) (w' : World) : Prop :=
  w.grownBy w' (some r) ∧ w'.cell? ⟨r, 0, none⟩ = some (.bool b) ∧ w'.frozen? ⟨r, 0, none⟩ = false ∧
  ((hs = false ∧ nv = v0) ∨ (hs = true ∧ l' = [] ∧ nv = .nilIface) ∨ (hs = true ∧ ∃ f1, Node I w' (Plus S w w') h nv l' f1 ∧ f1 ≤ x))

theorem kidD_of {κ : Type} {I : Inst κ} {w W w' : World} {S : Nat → Prop} {r : Nat} {b : Bool} {h : Nat} {v0 : Value} {hs : Bool} {l' : List (κ × Int)} {x : Nat} {e : Ending} (hW : Below w.heap.size w W) (hd : DelRes I W S r b h v0 hs l' x e w') :
    ∃ nv, e = .returned nv ∧ KidD I w S r b h v0 hs l' x nv w' := by
  obtain ⟨h1, h2, h3, h4⟩ := hd
  have hF : w.grownBy w' (some r) := ⟨h1.os.trans hW.os, h1.tape.trans hW.tape, h1.output.trans hW.output, Nat.le_trans hW.size h1.size, fun i hi hne => (h1.block i (Nat.lt_of_lt_of_le hi hW.size) hne).trans (hW.block i hi)⟩
  have hP : ∀ y, Plus S W w' y → Plus S w w' y := fun y hy => hy.imp id fun ⟨h5, h6⟩ => ⟨Nat.le_trans hW.size h5, h6⟩
  rcases h4 with ⟨h5, rfl⟩ | ⟨h5, h6, rfl⟩ | ⟨h5, nv, f1, rfl, hn, hf⟩
  · exact ⟨_, rfl, hF, h2, h3, .inl ⟨h5, rfl⟩⟩
  · exact ⟨_, rfl, hF, h2, h3, .inr (.inl ⟨h5, h6, rfl⟩)⟩
  · exact ⟨_, rfl, hF, h2, h3, .inr (.inr ⟨h5, f1, hn.keep hP (fun _ _ => rfl), hf⟩)⟩

/-- One kid in a kid's place. -/
theorem bcloseD2 {κ : Type} {I : Inst κ} {w w6 : World} {S : Nat → Prop} {r : Nat} {b : Bool} {h g a : Nat} {v0 : Value} {ks : List (Kid κ)} {q : Nat} {c c1 : Kid κ} {t : TypeId} {A B l' : List (κ × Int)} (hF : w.grownBy w6 (some r)) (hr : w6.cell? ⟨r, 0, none⟩ = some (.bool b)) (hf : w6.frozen? ⟨r, 0, none⟩ = false)
    (hW : Whole w6 g ((ks.take q ++ c1 :: ks.drop (q + 1)).flatMap fun c => [keyOf I c.l, c.v]) t) (hg : w.heap.size ≤ g) (ha : w6.cell? ⟨a, 0, none⟩ = some (.slice (some ⟨g, 0, none⟩) ks.length ks.length)) (hga : w.heap.size ≤ a)
    (hq : ks[q]? = some c) (h32 : ks.length ≤ 32) (hkids : ∀ c ∈ ks, Node I w6 (Plus S w w6) h c.v c.l c.f) (hk1 : Node I w6 (Plus S w w6) h c1.v c1.l c1.f) (hp : c1.f ≤ c.f)
    (hA : A = ((ks.take q).map (·.l)).flatten) (hB : B = ((ks.drop (q + 1)).map (·.l)).flatten) (hl : l' = A ++ c1.l ++ B) :
    DelRes I w S r b (h + 1) v0 true l' ((ks.map (·.f)).sum + 16 ^ (h + 1) * (ks.length - 17)) (.returned (.iface I.branch (.pointer (some ⟨a, 0, none⟩)))) w6 := by
  have hgl := hW.lt
  have hal := World.block_lt_of_cell? w6 _ ha
  have hql := (List.getElem?_eq_some_iff.1 hq).1
  have hsp := kids_split hq
  have hlen : (ks.take q ++ c1 :: ks.drop (q + 1)).length = ks.length := by simp; omega
  have hn := branch_new (I := I) (S := Plus S w w6) (h := h) (cap := ks.length) (by rw [hlen]; exact ha) hW.row (.inr ⟨hga, hal⟩) (.inr ⟨hg, hgl⟩) (by omega) (by omega) (by omega) (by omega) (by
    intro x hx
    rcases List.mem_append.1 hx with hx | hx
    · exact hkids x (List.mem_of_mem_take hx)
    · rcases List.mem_cons.1 hx with rfl | hx
      · exact hk1
      · exact hkids x (List.mem_of_mem_drop hx))
  rw [hlen] at hn
  have el : ((ks.take q ++ c1 :: ks.drop (q + 1)).map (·.l)).flatten = l' := by rw [hl, hA, hB]; simp
  rw [el] at hn
  refine ⟨hF, hr, hf, .inr (.inr ⟨rfl, _, _, rfl, hn, ?_⟩)⟩
  have e1 : (ks.map (·.f)).sum = ((ks.take q).map (·.f)).sum + c.f + ((ks.drop (q + 1)).map (·.f)).sum := by
    have h0 : (ks.map (·.f)).sum = ((ks.take q ++ c :: ks.drop (q + 1)).map (·.f)).sum := by rw [← hsp]
    rw [h0]; simp [List.sum_append]; omega
  have e2 : ((ks.take q ++ c1 :: ks.drop (q + 1)).map (·.f)).sum = ((ks.take q).map (·.f)).sum + c1.f + ((ks.drop (q + 1)).map (·.f)).sum := by simp [List.sum_append]; omega
  rw [e1, e2]
  omega

/-- A kid is gone. -/
theorem bcloseD1 {κ : Type} {I : Inst κ} {w w6 : World} {S : Nat → Prop} {r : Nat} {b : Bool} {h g a : Nat} {v0 : Value} {ks : List (Kid κ)} {q m : Nat} {c : Kid κ} {t : TypeId} {A B l' : List (κ × Int)} (hF : w.grownBy w6 (some r)) (hr : w6.cell? ⟨r, 0, none⟩ = some (.bool b)) (hf : w6.frozen? ⟨r, 0, none⟩ = false)
    (hW : Whole w6 g ((ks.take q ++ ks.drop (q + 1)).flatMap fun c => [keyOf I c.l, c.v]) t) (hg : w.heap.size ≤ g) (ha : w6.cell? ⟨a, 0, none⟩ = some (.slice (some ⟨g, 0, none⟩) m m)) (hga : w.heap.size ≤ a) (hm : ks.length = m + 1) (hm0 : 0 < m)
    (hq : ks[q]? = some c) (h32 : ks.length ≤ 32) (hkids : ∀ c ∈ ks, Node I w6 (Plus S w w6) h c.v c.l c.f)
    (hA : A = ((ks.take q).map (·.l)).flatten) (hB : B = ((ks.drop (q + 1)).map (·.l)).flatten) (hl : l' = A ++ B) :
    DelRes I w S r b (h + 1) v0 true l' ((ks.map (·.f)).sum + 16 ^ (h + 1) * (ks.length - 17)) (.returned (.iface I.branch (.pointer (some ⟨a, 0, none⟩)))) w6 := by
  have hgl := hW.lt
  have hal := World.block_lt_of_cell? w6 _ ha
  have hql := (List.getElem?_eq_some_iff.1 hq).1
  have hsp := kids_split hq
  have hlen : (ks.take q ++ ks.drop (q + 1)).length = m := by simp; omega
  have hn := branch_new (I := I) (S := Plus S w w6) (h := h) (cap := m) (by rw [hlen]; exact ha) hW.row (.inr ⟨hga, hal⟩) (.inr ⟨hg, hgl⟩) (by omega) (by omega) (by omega) (by omega) (by
    intro x hx
    rcases List.mem_append.1 hx with hx | hx
    · exact hkids x (List.mem_of_mem_take hx)
    · exact hkids x (List.mem_of_mem_drop hx))
  rw [hlen] at hn
  have el : ((ks.take q ++ ks.drop (q + 1)).map (·.l)).flatten = l' := by rw [hl, hA, hB]; simp
  rw [el] at hn
  refine ⟨hF, hr, hf, .inr (.inr ⟨rfl, _, _, rfl, hn, ?_⟩)⟩
  have e1 : (ks.map (·.f)).sum = ((ks.take q).map (·.f)).sum + c.f + ((ks.drop (q + 1)).map (·.f)).sum := by
    have h0 : (ks.map (·.f)).sum = ((ks.take q ++ c :: ks.drop (q + 1)).map (·.f)).sum := by rw [← hsp]
    rw [h0]; simp [List.sum_append]; omega
  have e2 : ((ks.take q ++ ks.drop (q + 1)).map (·.f)).sum = ((ks.take q).map (·.f)).sum + ((ks.drop (q + 1)).map (·.f)).sum := by simp [List.sum_append]
  have e3 : 16 ^ (h + 1) * (m - 17) ≤ 16 ^ (h + 1) * (ks.length - 17) := Nat.mul_le_mul_left _ (by omega)
  rw [e1, e2]
  omega

/-- A box is made over a row that is new. -/
theorem box_over (w w3 : World) (v : Value) (T : TypeId) {cur : List Value} {t : TypeId} (hB : Below w.heap.size w w3) (hW : Whole w3 w.heap.size cur t) (hs : w3.heap.size = w.heap.size + 1) :
    Below w.heap.size w (w3.alloc (.cells #[v] T)) ∧ Whole (w3.alloc (.cells #[v] T)) w.heap.size cur t ∧ (w3.alloc (.cells #[v] T)).cell? ⟨w.heap.size + 1, 0, none⟩ = some v :=
  ⟨gTrans hB (gNew w3 _), hW.grow (gNew w3 _), by rw [← hs]; exact cell_new _ _ _⟩

end Go.Proofs.YtfejflhgaphilaaGreatDoor

namespace Go.Proofs.YtfejflhgaphilaaGreatDoor
open Go.RowKit

/-- A cell of a block that is known whole is turned. -/
theorem whole_set {w : World} {g i : Nat} {cur : List Value} {t : TypeId} (h : Whole w g cur t) (v : Value) (hi : i < cur.length) :
    Whole (w.setCell ⟨g, i, none⟩ v) g (cur.set i v) t ∧ Upd g w (w.setCell ⟨g, i, none⟩ v) := by
  have hg := h.lt
  refine ⟨?_, ⟨rfl, rfl, rfl, by rw [set_size]; exact Nat.le_refl _, fun k _ hk => Below.heap_setCell w _ v k (fun e => hk (by rw [e]))⟩, set_size _ _ _⟩
  unfold Whole at h ⊢
  simp only [World.setCell, Array.getElem?_modify, h]
  simp

/-- What is laid into a row from the left. -/
theorem fill_step {α : Type} {cur P y : List α} {n k : Nat} (hP : P.length = n) (hy : y.length = k) (hl : n + k ≤ cur.length) : splice (P ++ cur.drop n) n y = (P ++ y) ++ cur.drop (n + k) := by
  have e : P ++ cur.drop n = P ++ (cur.drop n).take k ++ (cur.drop n).drop k := by rw [List.append_assoc, List.take_append_drop]
  rw [e, splice_at hP (by simp [hy]; omega), List.drop_drop]

theorem box_news (w : World) (cs : Array Value) (t : TypeId) : Whole (w.alloc (.cells cs t)) w.heap.size cs.toList t := by
  unfold Whole World.alloc
  exact Array.getElem?_push_size

theorem alloc_sz (w : World) (o : Obj) : (w.alloc o).heap.size = w.heap.size + 1 := by simp

end Go.Proofs.YtfejflhgaphilaaGreatDoor

namespace Go.Proofs.YtfejflhgaphilaaGreatDoor
open Go.RowKit

section
variable {P : Program} (w : World)

/-- Where the row lies behind an append: where it lay, or in a new block. -/
def Moved (w : World) (v v' : Value) : Prop := ∀ k, v'.ownBlock = some k → v.ownBlock = some k ∨ w.heap.size ≤ k

theorem run_append_moved (base : Nat) (t ty e : TypeId) (i : TypeInfo) (z : Value) (size bytes : Nat) (ht : P.underlying t = some (.slice e)) (hi : P.info? e = some i) (hz : i.zero = some z)
    (hsize : i.size = size) (hby : i.bytes = bytes) (hzs : z.cells.size = size) (hsz : 0 < size)
    (v : Value) (n : Nat) (xs : List Value) (hown : w.ownsRow base e size v n xs)
    (a : Addr) (m c : Nat) (news : List Value) (hl : news.length = m * size) (hnews : ∀ j u, news[j]? = some u → w.cell? (a.add j) = some u) (h1 : ∀ u ∈ news, u.oneCell' = true)
    (h63 : n + m ≤ maxLen) (hbytes : (n + m) * bytes ≤ 140737488355328) (hbase : base ≤ w.heap.size) :
    ∃ v' w', (Builtin.append_ #[t, t] ty #[v, .slice (some a) m c]).run P w = .ok v' w' ∧ w'.ownsRow base e size v' (n + m) (xs ++ news) ∧ w.grownBy w' v.ownBlock ∧ Moved w v v' := by
  obtain ⟨v', w', hr, h2, h3, h4⟩ := run_append_own (P := P) w base t ty e i z size bytes ht hi hz hsize hby hzs hsz v n xs hown a m c news hl hnews h1 h63 hbytes hbase
  refine ⟨v', w', hr, h2, h3, ?_⟩
  subst hsize
  subst hby
  have hsmall : n + m ≤ 9223372036854775807 := by simp only [maxLen] at h63; omega
  rcases hown.2 with ⟨rfl, rfl⟩ | ⟨g, cap, cur, rfl, hbg, hg, hnc, hcm, hcs, htake⟩
  · by_cases hm : m = 0
    · rw [h4.2 ⟨rfl, hm⟩]
      intro k hk
      cases hk
    · have hr' := run_append_nil (P := P) w t ty e i z ht hi hz a m c news hl hnews (by omega) (by omega) (by have hb := hbytes; simp only [Nat.zero_add] at hb; omega)
      rw [hr] at hr'
      injection hr' with hv hw
      subst hv
      intro k hk
      simp only [Value.ownBlock, Option.some.injEq] at hk
      exact .inr (by omega)
  · by_cases hroom : n + m ≤ cap
    · have hfit : n * i.size + news.length ≤ cur.size := by rw [hl, hcs, ← Nat.add_mul]; exact Nat.mul_le_mul_right _ hroom
      have hr' := run_append_room (P := P) w t ty e i ht hi g n cap cur hg a m c news hl hnews h1 hroom hfit
      rw [hr] at hr'
      injection hr' with hv hw
      subst hv
      intro k hk
      exact .inl hk
    · have holds : ∀ j u, xs[j]? = some u → w.cell? ((⟨g, 0, none⟩ : Addr).add j) = some u := hown.cells (g := g) rfl
      have hr' := run_append_grow (P := P) w t ty e i z ht hi hz ⟨g, 0, none⟩ n cap xs hown.1 holds a m c news hl hnews (by omega) (by omega) (growslice_fits (by omega) hbytes)
      rw [hr] at hr'
      injection hr' with hv hw
      subst hv
      intro k hk
      simp only [Value.ownBlock, Option.some.injEq] at hk
      exact .inr (by omega)

theorem wpList_append_moved {ops : Array Oper} {rest : List Oper} {o : Oper} {a : Act} {Q : Exit → Act → World → Prop} (hgd : o.guard = none) (s x : Operand) (t : TypeId)
    (ho : o.op = .call { callee := .builtin .append, args := #[s, x], argTypes := #[t, t] })
    (base : Nat) (e : TypeId) (i : TypeInfo) (z : Value) (size bytes : Nat) (ht : P.underlying t = some (.slice e)) (hi : P.info? e = some i) (hz : i.zero = some z)
    (hsize : i.size = size) (hby : i.bytes = bytes) (hzs : z.cells.size = size) (hsz : 0 < size)
    (v : Value) (n : Nat) (xs : List Value) (hs : a.eval s = v) (hown : w.ownsRow base e size v n xs)
    (ad : Addr) (m c : Nat) (news : List Value) (hx : a.eval x = .slice (some ad) m c) (hl : news.length = m * size) (hnews : ∀ j u, news[j]? = some u → w.cell? (ad.add j) = some u) (h1 : ∀ u ∈ news, u.oneCell' = true)
    (h63 : n + m ≤ maxLen) (hbytes : (n + m) * bytes ≤ 140737488355328) (hbase : base ≤ w.heap.size)
    (h : ∀ v' w', w'.ownsRow base e size v' (n + m) (xs ++ news) → w.grownBy w' v.ownBlock → Moved w v v' → wpList P ops Q rest (a.put o.dst v') w') : wpList P ops Q (o :: rest) a w := by
  refine wpList_plain hgd fun K hK => ?_
  obtain ⟨v', w', hr, h2, h3, h4⟩ := run_append_moved (P := P) w base t o.type e i z size bytes ht hi hz hsize hby hzs hsz v n xs hown ad m c news hl hnews h1 h63 hbytes hbase
  unfold Oper.wp execOp
  simp only [ho, resolve, invoke, builtin, Sem.run_bind, Sem.run_pure, Result.andThen_ok, List.map_toArray, List.map_cons, List.map_nil, hs, hx, hr]
  exact hK _ _ (h v' w' h2 h3 h4)

/-- 'make([]T, 0, n)'. -/
theorem wpList_makeOwn {ops : Array Oper} {rest : List Oper} {o : Oper} {a : Act} {Q : Exit → Act → World → Prop} (hg : o.guard = none) (l c : Operand) (t : TypeId) (hop : o.op = Op.makeSlice t l c)
    (e : TypeId) (i : TypeInfo) (z : Value) (sz by_ : Nat) (h1 : P.underlying t = some (.slice e)) (h2 : P.info? e = some i) (h3 : i.zero = some z) (h4 : i.size = sz) (h5 : i.bytes = by_)
    (kl kc : IntKind) (n : Nat) (hl : a.eval l = .int kl 0) (hc : a.eval c = .int kc (n : Int)) (hb : by_ * n ≤ 281474976710656) (h63 : n ≤ maxLen)
    (h : ∀ w', w'.ownsRow w.heap.size e sz (.slice (some ⟨w.heap.size, 0, none⟩) 0 n) 0 [] → Below w.heap.size w w' → wpList P ops Q rest (a.put o.dst (.slice (some ⟨w.heap.size, 0, none⟩) 0 n)) w') :
    wpList P ops Q (o :: rest) a w := by
  refine wpList_plain hg fun K hK' => ?_
  obtain ⟨w', hrun, r1, r2⟩ := run_make_own (P := P) w w.heap.size t e i z sz h1 h2 h3 h4 kl kc n (by rw [h5]; exact hb) h63 (Nat.le_refl _)
  unfold Oper.wp
  simp [execOp, hop, hl, hc, hrun, Result.andThen]
  exact hK' _ _ (h _ r1 ⟨r2.os, r2.tape, r2.output, r2.size, fun k hk => r2.block k hk (by simp)⟩)
end
end Go.Proofs.YtfejflhgaphilaaGreatDoor

namespace Go.Proofs.YtfejflhgaphilaaGreatDoor
open Go.RowKit

section
variable {P : Program}
theorem wp_append_moved {o : Oper} {a : Act} {w : World} {K : Act → World → Prop} {Q : Exit → Act → World → Prop} (s x : Operand) (t : TypeId)
    (ho : o.op = .call { callee := .builtin .append, args := #[s, x], argTypes := #[t, t] })
    (base : Nat) (e : TypeId) (i : TypeInfo) (z : Value) (size bytes : Nat) (ht : P.underlying t = some (.slice e)) (hi : P.info? e = some i) (hz : i.zero = some z)
    (hsize : i.size = size) (hby : i.bytes = bytes) (hzs : z.cells.size = size) (hsz : 0 < size)
    (v : Value) (n : Nat) (xs : List Value) (hs : a.eval s = v) (hown : w.ownsRow base e size v n xs)
    (ad : Addr) (m c : Nat) (news : List Value) (hx : a.eval x = .slice (some ad) m c) (hl : news.length = m * size) (hnews : ∀ j u, news[j]? = some u → w.cell? (ad.add j) = some u) (h1 : ∀ u ∈ news, u.oneCell' = true)
    (h63 : n + m ≤ maxLen) (hbytes : (n + m) * bytes ≤ 140737488355328) (hbase : base ≤ w.heap.size)
    (h : ∀ v' w', w'.ownsRow base e size v' (n + m) (xs ++ news) → w.grownBy w' v.ownBlock → Moved w v v' → K (a.put o.dst v') w') : o.wp P a w K Q := by
  obtain ⟨v', w', hr, h2, h3, h4⟩ := run_append_moved (P := P) w base t o.type e i z size bytes ht hi hz hsize hby hzs hsz v n xs hown ad m c news hl hnews h1 h63 hbytes hbase
  unfold Oper.wp execOp
  simp only [ho, resolve, invoke, builtin, Sem.run_bind, Sem.run_pure, Result.andThen_ok, List.map_toArray, List.map_cons, List.map_nil, hs, hx, hr]
  exact h v' w' h2 h3 h4

/-- 's[:i]' of a slice that begins where its block begins. -/
theorem slice_upto (t e : TypeId) (sz : Nat) (ht : P.underlying t = some (.slice e)) (hsz : (P.info? e).map (·.size) = some sz) (b len cap i : Nat) (j : Int) (hj : j = (i : Int)) (hi : i ≤ cap) :
    ∀ W, (Instr.slice t (.slice (some ⟨b, 0, none⟩) len cap) none (some (.int .i64 j)) none).run P W = .ok (.slice (some ⟨b, 0, none⟩) i cap) W := by
  subst hj
  intro W
  have he : P.elem t = e := by simp [Program.elem, ht]
  have ht' : P.underlying t = some (.slice (P.elem t)) := by rw [he]; exact ht
  cases hq : P.info? e with
  | none => simp [hq] at hsz
  | some i0 =>
    have hs : i0.size = sz := by simpa [hq] using hsz
    rw [run_slice_h W t _ len cap ht' .i64 (i : Int) (by omega) (by omega), he]
    simp only [sizeOf, typeInfo, hq, hs, sliced, Int.toNat_natCast]
    by_cases hc : cap = 0
    · subst hc
      simp [hq, hs, Result.andThen]
    · simp [hq, hs, Result.andThen, Addr.add, hc]

/-- 's[i:]', where the new slice begins at some place in any case. -/
theorem slice_from' (t e : TypeId) (sz : Nat) (ht : P.underlying t = some (.slice e)) (hsz : (P.info? e).map (·.size) = some sz) (b o len cap i : Nat) (j : Int) (hj : j = (i : Int)) (hi : i ≤ len) (hlc : len ≤ cap) :
    ∃ D : Addr, (i < len → D = ⟨b, o + i * sz, none⟩) ∧ ∀ W, (Instr.slice t (.slice (some ⟨b, o, none⟩) len cap) (some (.int .i64 j)) none none).run P W = .ok (.slice (some D) (len - i) (cap - i)) W := by
  obtain ⟨D, h1, h2⟩ := slice_from (P := P) t e sz ht hsz b o len cap i j hj hi hlc
  by_cases h : i < len
  · rw [h1 h] at h2
    exact ⟨_, fun _ => rfl, h2⟩
  · subst hj
    have he : P.elem t = e := by simp [Program.elem, ht]
    have ht' : P.underlying t = some (.slice (P.elem t)) := by rw [he]; exact ht
    cases hq : P.info? e with
    | none => simp [hq] at hsz
    | some i0 =>
      have hs : i0.size = sz := by simpa [hq] using hsz
      refine ⟨if cap = i then ⟨b, o, none⟩ else ⟨b, o + i * sz, none⟩, fun h' => absurd h' h, fun W => ?_⟩
      rw [run_slice_l W t _ len cap ht' .i64 (i : Int) (by omega) (by omega), he]
      simp only [sizeOf, typeInfo, hq, hs, sliced, Int.toNat_natCast]
      by_cases hc : cap = i
      · simp [hq, hs, Result.andThen, hc]
      · simp [hq, hs, Result.andThen, Addr.add_lit, hc]
end
end Go.Proofs.YtfejflhgaphilaaGreatDoor

namespace Go.Proofs.YtfejflhgaphilaaGreatDoor
open Go.RowKit

variable {κ : Type}

/-- A branch over kids that are known. -/
structure BranchAt (I : Inst κ) (w : World) (S : Nat → Prop) (h : Nat) (v : Value) (ks : List (Kid κ)) (a b o cap : Nat) : Prop where
  ptr : v = .iface I.branch (.pointer (some ⟨a, 0, none⟩))
  sa : S a
  sb : S b
  cell : w.cell? ⟨a, 0, none⟩ = some (.slice (some ⟨b, o, none⟩) ks.length cap)
  hcap : ks.length ≤ cap
  hc40 : cap ≤ 40
  pos : 0 < ks.length
  h32 : ks.length ≤ 32
  row : Row w b o (ks.flatMap fun c => [keyOf I c.l, c.v])
  kids : ∀ c ∈ ks, Node I w S h c.v c.l c.f

theorem Node.branch {I : Inst κ} {w : World} {S : Nat → Prop} {h f : Nat} {v : Value} {l : List (κ × Int)} (hn : Node I w S (h + 1) v l f) : ∃ ks a b o cap, BranchAt I w S h v ks a b o cap ∧ l = (ks.map (·.l)).flatten := by
  obtain ⟨a, b, o, cap, ks, h1, h2, h3, h4, h5, h6, h7, h8, h9, h10, h11, h12⟩ := hn
  exact ⟨ks, a, b, o, cap, ⟨h1, h2, h3, h4, h5, h6, h7, h8, h11, h12⟩, h9⟩

theorem BranchAt.node {I : Inst κ} {w : World} {S : Nat → Prop} {h a b o cap : Nat} {v : Value} {ks : List (Kid κ)} (hb : BranchAt I w S h v ks a b o cap) : ∃ f, Node I w S (h + 1) v (ks.map (·.l)).flatten f :=
  ⟨_, a, b, o, cap, ks, hb.ptr, hb.sa, hb.sb, hb.cell, hb.hcap, hb.hc40, hb.pos, hb.h32, rfl, rfl, hb.row, hb.kids⟩

theorem BranchAt.keep {I : Inst κ} {w w' : World} {S S' : Nat → Prop} (hS : ∀ b, S b → S' b) (hw : ∀ b, S b → w'.heap[b]? = w.heap[b]?) {h a b o cap : Nat} {v : Value} {ks : List (Kid κ)} (hb : BranchAt I w S h v ks a b o cap) : BranchAt I w' S' h v ks a b o cap :=
  ⟨hb.ptr, hS _ hb.sa, hS _ hb.sb, cell_block (hw _ hb.sa) hb.cell, hb.hcap, hb.hc40, hb.pos, hb.h32, hb.row.of_block (hw _ hb.sb), fun c hc => (hb.kids c hc).keep hS hw⟩

/-- The way from the root (of height H, over L) down to a node of height h over l: A lies ahead of l, B behind it. -/
inductive Ctx (I : Inst κ) (w : World) (S : Nat → Prop) (H : Nat) (root : Value) (L : List (κ × Int)) : Nat → Value → List (κ × Int) → List (κ × Int) → List (κ × Int) → List (Value × Nat) → Prop
  | top : Ctx I w S H root L H root L [] [] []
  | down {h a b o cap q : Nat} {pv : Value} {A B : List (κ × Int)} {fs : List (Value × Nat)} {ks : List (Kid κ)} {c : Kid κ} (hp : Ctx I w S H root L (h + 1) pv (ks.map (·.l)).flatten A B fs)
      (hb : BranchAt I w S h pv ks a b o cap) (hq : ks[q]? = some c) :
      Ctx I w S H root L h c.v c.l (A ++ ((ks.take q).map (·.l)).flatten) (((ks.drop (q + 1)).map (·.l)).flatten ++ B) ((pv, q) :: fs)

theorem kids_flat {ks : List (Kid κ)} {q : Nat} {c : Kid κ} (hq : ks[q]? = some c) : (ks.map (·.l)).flatten = ((ks.take q).map (·.l)).flatten ++ c.l ++ ((ks.drop (q + 1)).map (·.l)).flatten := by
  have h1 : (ks.map (·.l)).flatten = ((ks.take q ++ c :: ks.drop (q + 1)).map (·.l)).flatten := by rw [← kids_split hq]
  rw [h1]; simp

theorem Ctx.split {I : Inst κ} {w : World} {S : Nat → Prop} {H h : Nat} {root v : Value} {L l A B : List (κ × Int)} {fs : List (Value × Nat)} (hc : Ctx I w S H root L h v l A B fs) : A ++ l ++ B = L := by
  induction hc with
  | top => simp
  | down hp hb hq ih => rw [← ih, kids_flat hq]; simp

theorem Ctx.depth {I : Inst κ} {w : World} {S : Nat → Prop} {H h : Nat} {root v : Value} {L l A B : List (κ × Int)} {fs : List (Value × Nat)} (hc : Ctx I w S H root L h v l A B fs) : h + fs.length = H := by
  induction hc with
  | top => simp
  | down hp hb hq ih => simp; omega

theorem Ctx.node {I : Inst κ} {w : World} {S : Nat → Prop} {H h : Nat} {root v : Value} {L l A B : List (κ × Int)} {fs : List (Value × Nat)} (hc : Ctx I w S H root L h v l A B fs) (hr : ∃ f, Node I w S H root L f) : ∃ f, Node I w S h v l f := by
  induction hc with
  | top => exact hr
  | down hp hb hq ih => exact ⟨_, hb.kids _ (List.mem_of_getElem? hq)⟩

theorem Ctx.keep {I : Inst κ} {w w' : World} {S S' : Nat → Prop} (hS : ∀ b, S b → S' b) (hw : ∀ b, S b → w'.heap[b]? = w.heap[b]?) {H h : Nat} {root v : Value} {L l A B : List (κ × Int)} {fs : List (Value × Nat)} (hc : Ctx I w S H root L h v l A B fs) : Ctx I w' S' H root L h v l A B fs := by
  induction hc with
  | top => exact .top
  | down hp hb hq ih => exact .down ih (hb.keep hS hw) hq

/-- What the stack's cells hold: the topmost pair lies at the depth that there are pairs beneath it. -/
def Stk (cells : List Value) : Value × Nat → List (Value × Nat) → Prop
  | t, [] => cells[1]? = some t.1 ∧ cells[1 + 1]? = some (.int .i64 t.2)
  | t, f :: fs => cells[1 + (fs.length + 1) * 2]? = some t.1 ∧ cells[1 + (fs.length + 1) * 2 + 1]? = some (.int .i64 t.2) ∧ Stk cells f fs

theorem Stk.top {cells : List Value} {t : Value × Nat} {fs : List (Value × Nat)} (h : Stk cells t fs) : cells[1 + fs.length * 2]? = some t.1 ∧ cells[1 + fs.length * 2 + 1]? = some (.int .i64 t.2) := by
  cases fs with
  | nil => exact h
  | cons f fs => exact ⟨h.1, h.2.1⟩

theorem Stk.set {cells : List Value} {v : Value} {i : Nat} : ∀ {fs : List (Value × Nat)} {t : Value × Nat}, Stk cells t fs → 1 + fs.length * 2 + 1 < i → Stk (cells.set i v) t fs
  | [], t, h, hi => by
    obtain ⟨h1, h2⟩ := h
    exact ⟨by rw [List.getElem?_set_ne (by simp at hi; omega)]; exact h1, by rw [List.getElem?_set_ne (by simp at hi; omega)]; exact h2⟩
  | f :: fs, t, h, hi => by
    obtain ⟨h1, h2, h3⟩ := h
    simp only [List.length_cons] at hi
    exact ⟨by rw [List.getElem?_set_ne (by omega)]; exact h1, by rw [List.getElem?_set_ne (by omega)]; exact h2, h3.set (by omega)⟩

/-- The topmost pair's index is turned. -/
theorem Stk.turn {cells : List Value} {v : Value} {i j : Nat} {fs : List (Value × Nat)} (h : Stk cells (v, i) fs) (hl : 1 + fs.length * 2 + 1 < cells.length) : Stk (cells.set (1 + fs.length * 2 + 1) (.int .i64 (j : Int))) (v, j) fs := by
  cases fs with
  | nil =>
    obtain ⟨h1, h2⟩ := h
    simp only [List.length_nil] at hl ⊢
    exact ⟨by rw [List.getElem?_set_ne (by omega)]; exact h1, by rw [List.getElem?_set_self (by omega)]⟩
  | cons f fs =>
    obtain ⟨h1, h2, h3⟩ := h
    simp only [List.length_cons] at hl ⊢
    exact ⟨by rw [List.getElem?_set_ne (by omega)]; exact h1, by rw [List.getElem?_set_self (by omega)], h3.set (by omega)⟩

theorem splice_set2 {cells : List Value} {n : Nat} {u x : Value} (hl : n + 1 < cells.length) : splice cells n [u, x] = (cells.set n u).set (n + 1) x := by
  apply List.ext_getElem?
  intro i
  simp only [splice, List.append_assoc]
  by_cases h1 : i < n
  · rw [List.getElem?_append_left (by simp; omega), List.getElem?_set_ne (by omega), List.getElem?_set_ne (by omega)]
    simp [List.getElem?_take, h1]
  · rw [List.getElem?_append_right (by simp; omega)]
    have hn : (cells.take n).length = n := by simp; omega
    rw [hn]
    by_cases h2 : i = n
    · subst h2
      rw [List.getElem?_set_ne (by omega), List.getElem?_set_self (by omega)]
      simp
    · by_cases h3 : i = n + 1
      · subst h3
        rw [List.getElem?_set_self (by simp; omega)]
        simp
      · obtain ⟨m, rfl⟩ : ∃ m, i = n + 2 + m := ⟨i - n - 2, by omega⟩
        rw [List.getElem?_set_ne (by omega), List.getElem?_set_ne (by omega), show n + 2 + m - n = m + 2 by omega]
        simp [List.getElem?_drop]

/-- A pair is laid on the stack. -/
theorem Stk.push {cells : List Value} {u : Value} {j : Nat} {f : Value × Nat} {fs : List (Value × Nat)} (h : Stk cells f fs) (hl : 1 + (fs.length + 1) * 2 + 1 < cells.length) :
    Stk (splice cells (1 + (fs.length + 1) * 2) [u, .int .i64 (j : Int)]) (u, j) (f :: fs) := by
  rw [splice_set2 hl]
  exact ⟨by rw [List.getElem?_set_ne (by omega), List.getElem?_set_self (by omega)], by rw [List.getElem?_set_self (by simp; omega)], (h.set (by omega)).set (by omega)⟩

end Go.Proofs.YtfejflhgaphilaaGreatDoor

namespace Go.Proofs.YtfejflhgaphilaaGreatDoor
open Go.RowKit Lst

/-- v is a slice of n elements whose cells are cs. -/
def RowV (w : World) (v : Value) (n : Nat) (cs : List Value) : Prop :=
  ∃ (a : Option Addr) (cap : Nat), v = .slice a n cap ∧ n ≤ cap ∧ (0 < n → ∃ b o, a = some ⟨b, o, none⟩ ∧ Row w b o cs)

/-- As RowV, and the row's block is one of S. -/
def RowS (w : World) (S : Nat → Prop) (v : Value) (n : Nat) (cs : List Value) : Prop :=
  ∃ (a : Option Addr) (cap : Nat), v = .slice a n cap ∧ n ≤ cap ∧ (0 < n → ∃ b o, a = some ⟨b, o, none⟩ ∧ S b ∧ Row w b o cs)

theorem RowS.v {w : World} {S : Nat → Prop} {v : Value} {n : Nat} {cs : List Value} (h : RowS w S v n cs) : RowV w v n cs := by
  obtain ⟨a, cap, h1, h2, h3⟩ := h
  exact ⟨a, cap, h1, h2, fun h => let ⟨b, o, e, _, r⟩ := h3 h; ⟨b, o, e, r⟩⟩
theorem RowS.keep {w w' : World} {S S' : Nat → Prop} {v : Value} {n : Nat} {cs : List Value} (h : RowS w S v n cs) (hS : ∀ b, S b → S' b) (hw : ∀ b, S b → w'.heap[b]? = w.heap[b]?) : RowS w' S' v n cs := by
  obtain ⟨a, cap, h1, h2, h3⟩ := h
  exact ⟨a, cap, h1, h2, fun h => let ⟨b, o, e, s, r⟩ := h3 h; ⟨b, o, e, hS b s, r.of_block (hw b s)⟩⟩
theorem RowV.grow {w w' : World} {v : Value} {n : Nat} {cs : List Value} (h : RowV w v n cs) (hw : Below w.heap.size w w') : RowV w' v n cs := by
  obtain ⟨a, cap, h1, h2, h3⟩ := h
  exact ⟨a, cap, h1, h2, fun h => let ⟨b, o, e, r⟩ := h3 h; ⟨b, o, e, r.grow hw⟩⟩

/-- A row that is owned, as one that is read. -/
theorem own_rowV {w : World} {base : Nat} {e : TypeId} {size : Nat} {v : Value} {n : Nat} {xs : List Value} (h : w.ownsRow base e size v n xs) : RowV w v n xs := by
  rcases h.2 with ⟨rfl, rfl⟩ | ⟨g, cap, cur, rfl, hb, hg, hc, _⟩
  · exact ⟨none, 0, rfl, Nat.le_refl _, fun h => absurd h (Nat.lt_irrefl _)⟩
  · refine ⟨some ⟨g, 0, none⟩, cap, rfl, hc, fun _ => ⟨g, 0, rfl, fun j u hj => ?_⟩⟩
    have := h.cells (g := g) rfl j u hj
    rwa [Addr.add_lit] at this
theorem own_rowS {w : World} {base : Nat} {e : TypeId} {size : Nat} {v : Value} {n : Nat} {xs : List Value} (h : w.ownsRow base e size v n xs) {S : Nat → Prop} (hS : ∀ k, v.ownBlock = some k → S k) : RowS w S v n xs := by
  obtain ⟨a, cap, rfl, h2, h3⟩ := own_rowV h
  refine ⟨a, cap, rfl, h2, fun h => ?_⟩
  obtain ⟨b, o, rfl, r⟩ := h3 h
  exact ⟨b, o, rfl, hS b rfl, r⟩

/-- A row that is owned lies whole. -/
theorem own_whole {w : World} {base : Nat} {e : TypeId} {size : Nat} {v : Value} {n : Nat} {xs : List Value} (h : w.ownsRow base e size v n xs) (hn : 0 < n) :
    ∃ g cap tl, v = .slice (some ⟨g, 0, none⟩) n cap ∧ base ≤ g ∧ Whole w g (xs ++ tl) e ∧ n ≤ cap ∧ cap ≤ maxLen ∧ (xs ++ tl).length = cap * size := by
  rcases h.2 with ⟨_, h0⟩ | ⟨g, cap, cur, rfl, hb, hg, hc, hm, hs, ht⟩
  · omega
  · have e : cur.toList = xs ++ cur.toList.drop (n * size) := by rw [← ht, List.take_append_drop]
    refine ⟨g, cap, cur.toList.drop (n * size), rfl, hb, ?_, hc, hm, ?_⟩
    · unfold Whole
      rw [← e]
      exact hg
    · rw [← e]; simpa using hs
theorem whole_own {w : World} {base : Nat} {e : TypeId} {size g n cap : Nat} {xs tl : List Value} (hb : base ≤ g) (hW : Whole w g (xs ++ tl) e) (hx : xs.length = n * size) (hc : n ≤ cap) (hm : cap ≤ maxLen) (hs : (xs ++ tl).length = cap * size) :
    w.ownsRow base e size (.slice (some ⟨g, 0, none⟩) n cap) n xs :=
  ⟨hx, .inr ⟨g, cap, (xs ++ tl).toArray, rfl, hb, hW, hc, hm, by simpa using hs, by rw [← hx]; simp⟩⟩

abbrev Pr.cells (p : Pr) : List Value := [.int .i64 p.key, .string p.text, .int .i64 p.val]
theorem len_prc : ∀ p : Pr, p.cells.length = 3 := fun _ => rfl
abbrev prs (l : List Pr) : List Value := l.flatMap Pr.cells

/-- The three cells of a pair in a row. -/
theorem Row.pr {w : World} {b o : Nat} {l : List Pr} (h : Row w b o (prs l)) {i : Nat} {p : Pr} (hp : l[i]? = some p) :
    w.cell? ⟨b, o + i * 3, none⟩ = some (.int .i64 p.key) ∧ w.cell? ⟨b, o + i * 3 + 1, none⟩ = some (.string p.text) ∧ w.cell? ⟨b, o + i * 3 + 2, none⟩ = some (.int .i64 p.val) := by
  have h0 := h (i * 3 + 0) _ (flat_get len_prc hp (by decide))
  have h1 := h (i * 3 + 1) _ (flat_get len_prc hp (by decide))
  have h2 := h (i * 3 + 2) _ (flat_get len_prc hp (by decide))
  rw [← Nat.add_assoc] at h0 h1 h2
  exact ⟨h0, h1, h2⟩

/-- Where a pair stands is known by comparing it with the one in the middle. -/
theorem pos_right {txt : Bool} {kk nn : Int} {L : List Pr} (hs : Srt (cmpP txt kk nn) L) {m : Nat} {k p : Pr} (hp : L[m]? = some p) (h : cmpP txt kk nn p k = -1) : m < pos (fP txt kk nn k) L := by
  refine Nat.lt_of_not_le fun hle => ?_
  have hl := pos_le (fP txt kk nn k) L
  obtain ⟨hm, _⟩ := List.getElem?_eq_some_iff.1 hp
  obtain ⟨q, hq⟩ : ∃ q, L[pos (fP txt kk nn k) L]? = some q := ⟨_, List.getElem?_eq_getElem (by omega)⟩
  exact srt_ge (ordP txt kk nn) hs (k := k) hle hq hp (pos_at (fP txt kk nn k) _ _ hq) h
theorem pos_left {txt : Bool} {kk nn : Int} {L : List Pr} {m : Nat} {k p : Pr} (hp : L[m]? = some p) (h : cmpP txt kk nn p k ≠ -1) : pos (fP txt kk nn k) L ≤ m :=
  Nat.le_of_not_lt fun hlt => h (pos_lt (fP txt kk nn k) _ _ _ hlt hp)
end Go.Proofs.YtfejflhgaphilaaGreatDoor

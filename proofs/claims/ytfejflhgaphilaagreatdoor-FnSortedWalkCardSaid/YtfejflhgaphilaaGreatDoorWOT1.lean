/-
  TWO ITERATORS IN THE WORLD, over a map and over a set, of which one is read, T1.
  THE WALK of the thin package's sortedWalk, T1.
-/
import Derived.Test.YtfejflhgaphilaaGreatDoorWN
import Derived.Test.YtfejflhgaphilaaGreatDoorWISI
import Derived.Test.YtfejflhgaphilaaGreatDoorWISS
import Derived.Test.YtfejflhgaphilaaGreatDoorWJSS
import Derived.Deep.CutBlock
import Derived.Deep.RegionHeld3
set_option linter.all false
set_option linter.unusedVariables false
set_option linter.unusedSimpArgs false
set_option linter.unusedSectionVars false
namespace Go.Proofs.YtfejflhgaphilaaGreatDoor
open Go.RowKit Go.Sort Lst
namespace WT1

structure Its (kk nn : Int) (S : Nat → Prop) (it1 si it2 pm pp N M : Nat) (l : List (ByteArray × Int)) (t : Int) (w : World) : Prop where
  hS : ∀ x, S x → x < M
  b1 : it1 < M
  b2 : it2 < M
  b3 : si < M
  hM : M ≤ w.heap.size
  ne : it1 ≠ it2
  n1 : si ≠ it1
  n2 : si ≠ it2
  cell : w.cell? ⟨si, 0, none⟩ = some (.pointer (some ⟨it2, 0, none⟩))
  hN : N < 16 ^ 20
  main : Nss.ItAt kk nn w S it2 pp N l t
  other : ∃ t2, Nsi.ItAt kk nn w S it1 pm 0 [] t2

variable {kk nn : Int} {S : Nat → Prop} {it1 si it2 pm pp N M : Nat} {l : List (ByteArray × Int)} {t : Int} {w w' : World}

theorem Its.below (h : Its kk nn S it1 si it2 pm pp N M l t w) (hB : Below M w w') : Its kk nn S it1 si it2 pm pp N M l t w' := by
  obtain ⟨t2, ho⟩ := h.other
  exact ⟨h.hS, h.b1, h.b2, h.b3, Nat.le_trans h.hM hB.size, h.ne, h.n1, h.n2, cell_block (hB.block _ h.b3) h.cell, h.hN,
    h.main.keep (fun b hb => hB.block b (h.hS b hb)) (hB.block _ h.b2), t2, ho.keep (fun b hb => hB.block b (h.hS b hb)) (hB.block _ h.b1)⟩

theorem Its.lt (h : Its kk nn S it1 si it2 pm pp N M l t w) : ∀ x, S x → x < w.heap.size := fun x hx => Nat.lt_of_lt_of_le (h.hS x hx) h.hM
theorem Its.s1 (h : Its kk nn S it1 si it2 pm pp N M l t w) : ¬ S it1 := by
  obtain ⟨t2, ho⟩ := h.other; exact ho.2.1
theorem Its.s2 (h : Its kk nn S it1 si it2 pm pp N M l t w) : ¬ S it2 := by
  exact h.main.2.1

/-- The map's iterator has moved. -/
theorem Its.left (h : Its kk nn S it1 si it2 pm pp N M l t w) (k : w.grownBy w' (some it1)) {t' : Int} (hi : Nsi.ItAt kk nn w' S it1 pm 0 [] t') : Its kk nn S it1 si it2 pm pp N M l t w' :=
  ⟨h.hS, h.b1, h.b2, h.b3, Nat.le_trans h.hM k.size, h.ne, h.n1, h.n2, k.cell h.cell (fun e => h.n1 (by injection e)), h.hN,
    h.main.keep (fun b hb => k.block b (h.lt b hb) (fun e => h.s1 (by injection e with e; exact e ▸ hb))) (k.block _ (Nat.lt_of_lt_of_le h.b2 h.hM) (fun e => h.ne (by injection e with e; exact e.symm))), t', hi⟩
theorem Its.right (h : Its kk nn S it1 si it2 pm pp N M l t w) (k : w.grownBy w' (some it2)) {t' : Int} (hi : Nss.ItAt kk nn w' S it2 pp N l t') : Its kk nn S it1 si it2 pm pp N M l t' w' := by
  obtain ⟨t2, ho⟩ := h.other
  exact ⟨h.hS, h.b1, h.b2, h.b3, Nat.le_trans h.hM k.size, h.ne, h.n1, h.n2, k.cell h.cell (fun e => h.n2 (by injection e)), h.hN, hi, t2,
    ho.keep (fun b hb => k.block b (h.lt b hb) (fun e => h.s2 (by injection e with e; exact e ▸ hb))) (k.block _ (Nat.lt_of_lt_of_le h.b1 h.hM) (fun e => h.ne (by injection e)))⟩

def Left (kk nn : Int) (S : Nat → Prop) (it1 si it2 pm pp N M : Nat) (l : List (ByteArray × Int)) (t : Int) (w : World) (e : Ending) (w' : World) : Prop := e = .returned (.tuple #[]) ∧ w.grownBy w' (some it1) ∧ Its kk nn S it1 si it2 pm pp N M l t w'
def Right (kk nn : Int) (S : Nat → Prop) (it1 si it2 pm pp N M : Nat) (l : List (ByteArray × Int)) (t : Int) (w : World) (e : Ending) (w' : World) : Prop := e = .returned (.tuple #[]) ∧ w.grownBy w' (some it2) ∧ Its kk nn S it1 si it2 pm pp N M l t w'

theorem z20 : 0 < 16 ^ 20 := by decide

theorem Its.first1 (h : Its kk nn S it1 si it2 pm pp N M l t w) : Calls Tryz.prog 77 #[.pointer (some ⟨it1, 0, none⟩)] w (Left kk nn S it1 si it2 pm pp N M l t w) := by
  obtain ⟨t2, ho⟩ := h.other
  exact (Nsi.mFirst kk nn S w h.lt it1 pm 0 z20 [] t2 ho).mono fun e w' ⟨h1, h2, h3⟩ => ⟨h1, h2, h.left h2 h3⟩
theorem Its.first2 (h : Its kk nn S it1 si it2 pm pp N M l t w) : Calls Tryz.prog 78 #[.pointer (some ⟨si, 0, none⟩)] w (Right kk nn S it1 si it2 pm pp N M l (landP 0 l.length) w) :=
  (Nss.siFirst kk nn S w h.lt si it2 pp N h.hN l t h.cell h.main).mono fun e w' ⟨h1, h2, h3⟩ => ⟨h1, h2, h.right h2 h3⟩
theorem Its.last1 (h : Its kk nn S it1 si it2 pm pp N M l t w) : Calls Tryz.prog 79 #[.pointer (some ⟨it1, 0, none⟩)] w (Left kk nn S it1 si it2 pm pp N M l t w) := by
  obtain ⟨t2, ho⟩ := h.other
  exact (Nsi.mLast kk nn S w h.lt it1 pm 0 z20 [] t2 ho).mono fun e w' ⟨h1, h2, h3⟩ => ⟨h1, h2, h.left h2 h3⟩
theorem Its.last2 (h : Its kk nn S it1 si it2 pm pp N M l t w) : Calls Tryz.prog 52 #[.pointer (some ⟨si, 0, none⟩)] w (Right kk nn S it1 si it2 pm pp N M l ((l.length : Int) - 1) w) :=
  (Nss.siLast kk nn S w h.lt si it2 pp N h.hN l t h.cell h.main).mono fun e w' ⟨h1, h2, h3⟩ => ⟨h1, h2, h.right h2 h3⟩
theorem Its.seek1 (k : ByteArray) (hk : WfS k) (h : Its kk nn S it1 si it2 pm pp N M l t w) : Calls Tryz.prog 83 #[.pointer (some ⟨it1, 0, none⟩), Value.string k] w (Left kk nn S it1 si it2 pm pp N M l t w) := by
  obtain ⟨t2, ho⟩ := h.other
  exact (Nsi.mSeek kk nn k hk S w h.lt it1 pm 0 z20 [] t2 ho).mono fun e w' ⟨h1, h2, h3⟩ => ⟨h1, h2, h.left h2 h3⟩
theorem Its.seek2 (k : ByteArray) (hk : WfS k) (h : Its kk nn S it1 si it2 pm pp N M l t w) : Calls Tryz.prog 84 #[.pointer (some ⟨si, 0, none⟩), Value.string k] w (Right kk nn S it1 si it2 pm pp N M l (landP (pos (Nss.f kk nn k) l) l.length) w) :=
  (Nss.siSeek kk nn k hk S w h.lt si it2 pp N h.hN l t h.cell h.main).mono fun e w' ⟨h1, h2, h3⟩ => ⟨h1, h2, h.right h2 h3⟩
theorem Its.next_at {n : Nat} {x : ByteArray × Int} (hx : l[n]? = some x) (h : Its kk nn S it1 si it2 pm pp N M l n w) :
    Calls Tryz.prog 80 #[.pointer (some ⟨si, 0, none⟩)] w fun e w' => e = .returned (.tuple #[Value.string x.1, .bool true]) ∧ w.grownBy w' (some it2) ∧ Its kk nn S it1 si it2 pm pp N M l (landP (n + 1) l.length) w' :=
  (Nss.siNext_at kk nn S w h.lt si it2 pp N l n x hx h.cell h.main).mono fun e w' ⟨h1, h2, h3⟩ => ⟨h1, h2, h.right h2 h3⟩
theorem Its.next_done (h : Its kk nn S it1 si it2 pm pp N M l (-1) w) :
    Calls Tryz.prog 80 #[.pointer (some ⟨si, 0, none⟩)] w fun e w' => e = .returned (.tuple #[Value.string ⟨#[]⟩, .bool false]) ∧ w.grownBy w' (some it2) ∧ Its kk nn S it1 si it2 pm pp N M l (-1) w' :=
  (Nss.siNext_done kk nn S w h.lt si it2 pp N l h.cell h.main).mono fun e w' ⟨h1, h2, h3⟩ => ⟨h1, h2, h.right h2 h3⟩
theorem Its.prev_at {n : Nat} {x : ByteArray × Int} (hx : l[n]? = some x) (h : Its kk nn S it1 si it2 pm pp N M l n w) :
    Calls Tryz.prog 54 #[.pointer (some ⟨si, 0, none⟩)] w fun e w' => e = .returned (.tuple #[Value.string x.1, .bool true]) ∧ w.grownBy w' (some it2) ∧ Its kk nn S it1 si it2 pm pp N M l ((n : Int) - 1) w' :=
  (Nss.siPrev_at kk nn S w h.lt si it2 pp N l n x hx h.cell h.main).mono fun e w' ⟨h1, h2, h3⟩ => ⟨h1, h2, h.right h2 h3⟩
theorem Its.prev_done (h : Its kk nn S it1 si it2 pm pp N M l (-1) w) :
    Calls Tryz.prog 54 #[.pointer (some ⟨si, 0, none⟩)] w fun e w' => e = .returned (.tuple #[Value.string ⟨#[]⟩, .bool false]) ∧ w.grownBy w' (some it2) ∧ Its kk nn S it1 si it2 pm pp N M l (-1) w' :=
  (Nss.siPrev_done kk nn S w h.lt si it2 pp N l h.cell h.main).mono fun e w' ⟨h1, h2, h3⟩ => ⟨h1, h2, h.right h2 h3⟩
theorem Its.done1 (h : Its kk nn S it1 si it2 pm pp N M l t w) : ∃ d, Calls Tryz.prog 85 #[.pointer (some ⟨it1, 0, none⟩)] w fun e w' => e = .returned (.bool d) ∧ w' = w := by
  obtain ⟨t2, ho⟩ := h.other
  exact ⟨_, Nsi.itDone kk nn S w it1 pm 0 [] t2 ho⟩
theorem Its.done2 (h : Its kk nn S it1 si it2 pm pp N M l t w) : Calls Tryz.prog 53 #[.pointer (some ⟨si, 0, none⟩)] w fun e w' => e = .returned (.bool (decide (t < 0))) ∧ w' = w :=
  Nss.siDone kk nn S w si it2 pp N l t h.cell h.main
end WT1
end Go.Proofs.YtfejflhgaphilaaGreatDoor

namespace Go.Proofs.YtfejflhgaphilaaGreatDoor
open Go.RowKit Go.Sort Lst
namespace WT1

theorem infoA : (Tryz.prog.info? 61).map (fun i => (i.zero, i.size, i.bytes)) = some (some (.agg #[.int .i64 0, .string ⟨#[]⟩, .int .i64 0, .bool false, .bool false]), 5, 40) := by kernel_rfl

/-- The answer of a move, but for 'done', and the iterators behind it. -/
def Res (kk nn : Int) (S : Nat → Prop) (it1 si it2 pm pp N M : Nat) (l : List (ByteArray × Int)) (L : List Pr) (wr : World) (A : Nat) (op t t' : Int) (wy : World) : Prop :=
  ∃ (q : Pr) (ok : Bool), Whole wy A [.int .i64 q.key, .string q.text, .int .i64 q.val, .bool ok, .bool false] 61 ∧ But wr.heap.size it1 it2 wr wy ∧ Its kk nn S it1 si it2 pm pp N M l t' wy ∧ moveSays L op t t' = (q, ok, decide (t' < 0))

theorem whole_by {w w' : World} {g i : Nat} {cs : List Value} {t : TypeId} (h : Whole w g cs t) (k : w.grownBy w' (some i)) (hg : g ≠ i) : Whole w' g cs t := (k.block g h.lt (fun e => hg (by injection e))).trans h

theorem okV {kk nn : Int} (hO : OrdOK kk nn) : (kk = 0 ∧ cvS kk nn = .nilIface) ∨ Nsi.OK kk nn (cvS kk nn) := by
  unfold cvS
  by_cases h : kk = 0
  · exact .inl ⟨h, if_pos h⟩
  · rw [if_neg h]
    exact .inr (cmpOK_text (nn := nn) (.inr ⟨hO.lo, hO.hi, rfl⟩))

/-- The two collections: what was put so far lies in one of them, the other is empty. -/
structure Two (kk nn : Int) (qs : List Pr) (B : Nat) (w : World) (S : Nat → Prop) (pm ps i : Nat) (l : List (ByteArray × Int)) : Prop where
  lt : ∀ x, S x → x < w.heap.size
  nb : ¬ S B
  mm : Nsi.MapAt kk nn w S pm 0 []
  ms : Nss.MapAt kk nn w S ps i l
  box : Whole w B [.pointer (some ⟨ps, 0, none⟩)] 108
  put : PutQ true kk nn qs i (l.map embS)
  zero : ∀ x ∈ l, x.2 = 0

theorem Two.step {kk nn : Int} {qs : List Pr} {B : Nat} {wr wc w5 : World} {S : Nat → Prop} {pm pp p' i : Nat} {l : List (ByteArray × Int)} {k : ByteArray} {v : Int} (hT : Two kk nn qs B wr S pm pp i l) (hgn : Below wr.heap.size wr wc) (hb : Below wc.heap.size wc w5)
    (hM : Nss.MapAt kk nn w5 (Plus S wc w5) p' (i + 1) (ins (Nss.f kk nn k) (k, v) l)) (hq : qs[i]? = some (embS (k, v))) (hv : v = 0) :
    Two kk nn qs B (w5.setCell ⟨B, 0, none⟩ (.pointer (some ⟨p', 0, none⟩))) (Plus S wc w5) pm p' (i + 1) (ins (Nss.f kk nn k) (k, v) l) := by
  have hbl := hT.box.lt
  have h12 := gTrans hgn hb
  have hnb : ¬ Plus S wc w5 B := fun h => by
    rcases h with h | h
    · exact hT.nb h
    · have := hgn.size; omega
  obtain ⟨hW, hU⟩ := whole_set (hT.box.grow h12) (.pointer (some ⟨p', 0, none⟩)) (i := 0) (by simp)
  have hk : ∀ b, Plus S wc w5 b → (w5.setCell ⟨B, 0, none⟩ (.pointer (some ⟨p', 0, none⟩))).heap[b]? = w5.heap[b]? := fun b hb => hU.heap (fun e => hnb (e ▸ hb))
  refine ⟨fun x hx => ?_, hnb, ?_, hM.keep (fun _ h => h) hk, hW, ?_, fun x hx => by
    rcases Nss.mem_ins hx with rfl | h
    · exact hv
    · exact hT.zero x h⟩
  · rw [hU.size]
    rcases hx with h | h
    · exact Nat.lt_of_lt_of_le (hT.lt x h) h12.size
    · exact h.2
  · exact (hT.mm.keep (fun _ h => .inl h) fun b hb' => h12.block b (hT.lt b hb')).keep (fun _ h => h) hk
  · have := hT.put.step hq
    rw [ins_map (fP true kk nn (embS (k, v))) embS (k, v) l] at this
    exact this

def qsOf (ps : List Pr) : List Pr := ps.map fun p => zeroP true (keyP true p)

set_option maxHeartbeats 16000000 in
set_option maxRecDepth 100000 in
theorem walk_any (kk nn : Int) (ps : List Pr) (ms : List Mv) (psl msl : Value) (w : World) (hO : OrdOK kk nn) (hps : ∀ p ∈ ps, I64 p.key) (hms : ∀ m ∈ ms, MvOK m) (hlen : ps.length ≤ 800000) (hlen2 : ms.length ≤ 800000)
    (hR : RowV w psl ps.length (prs ps)) (hRm : RowV w msl ms.length (mvs ms)) :
    Calls Tryz.prog 39 #[keysS, cvS kk nn, .bool true, psl, msl] w fun e w' => ∃ v', e = .returned v' ∧
      w'.ownsRow w.heap.size 61 5 v' ms.length (was (walkRun (seekP true kk nn (putAll true kk nn (qsOf ps) [])) (putAll true kk nn (qsOf ps) []) (landP 0 (putAll true kk nn (qsOf ps) []).length) ms)) ∧ Below w.heap.size w w' := by
  have HCV := Lib.hid (okV hO)
  generalize cvS kk nn = cv at *
  obtain ⟨a, cap, rfl, hcap, hrow⟩ := hR
  obtain ⟨am, capm, rfl, hcapm, hrowm⟩ := hRm
  have HROW := Lib.hid hrow
  have HROWM := Lib.hid hrowm
  have HMS := Lib.hid hms
  have HPS := Lib.hid hps
  have hB := gNew w (.cells #[.func (.func 55) #[] #[], .func (.func 56) #[] #[], .func (.func 58) #[] #[]] 75)
  have q0 : (w.alloc (.cells #[.func (.func 55) #[] #[], .func (.func 56) #[] #[], .func (.func 58) #[] #[]] 75)).cell? ⟨w.heap.size, 0, none⟩ = some (.func (.func 55) #[] #[]) := by go_simp
  have q2 : (w.alloc (.cells #[.func (.func 55) #[] #[], .func (.func 56) #[] #[], .func (.func 58) #[] #[]] 75)).cell? ⟨w.heap.size, 2, none⟩ = some (.func (.func 58) #[] #[]) := by go_simp
  have hw1 : w.heap.size + 1 ≤ (w.alloc (.cells #[.func (.func 55) #[] #[], .func (.func 56) #[] #[], .func (.func 58) #[] #[]] 75)).heap.size := by rw [alloc_sz]; exact Nat.le_refl _
  have QS := Lib.hid (And.intro q0 (And.intro q2 hw1))
  have HB := Lib.hid hB
  have HNEW : Hid (∀ W, Calls Tryz.prog 74 #[cv] W fun e w' => ∃ p', e = .returned (.pointer (some ⟨p', 0, none⟩)) ∧ Below W.heap.size W w' ∧ Nsi.MapAt kk nn w' (Plus (fun _ => False) W w') p' 0 []) := fun W => Nsi.mapNew kk nn cv HCV.out (fun _ => False) W
  have HNEWS : Hid (∀ (S : Nat → Prop) W, (∀ x, S x → x < W.heap.size) → Calls Tryz.prog 44 #[cv, .slice none 0 0] W fun e w' => ∃ p', e = .returned (.agg #[.pointer (some ⟨p', 0, none⟩)]) ∧ Below W.heap.size W w' ∧ Nss.MapAt kk nn w' (Plus S W w') p' 0 []) := fun S W hS => Nss.setNew kk nn cv HCV.out S W hS
  clear hrow hrowm hO hps hms hB q0 q2 hw1
  go_enter Tryz.func39, Tryz.ntmps39
  go_upto_region 1 with (fail)
  generalize w.alloc (.cells #[.func (.func 55) #[] #[], .func (.func 56) #[] #[], .func (.func 58) #[] #[]] 75) = wa at *
  go_upto_region 2 with (go_at_call 74; refine (HNEW.out _).mono ?_; rintro e w1 ⟨pm0, rfl, hB1, hM1⟩)
  have HM1 := Lib.hid hM1
  have HB1 := Lib.hid hB1
  clear hM1 hB1
  have HNS := Lib.hid (HNEWS.out (Plus (fun _ => False) wa w1) w1 (fun x hx => by rcases hx with h | h; exact h.elim; exact h.2))
  go_upto_region 4 with (go_at_call 44; refine HNS.out.mono ?_; rintro e w2 ⟨ps0, rfl, hB2, hM2⟩)
  have hTWO : Two kk nn (qsOf ps) w2.heap.size (w2.alloc (.cells #[.pointer (some ⟨ps0, 0, none⟩)] 108)) (Plus (Plus (fun _ => False) wa w1) w1 w2) pm0 ps0 0 [] := by
    have hlt : ∀ x, Plus (Plus (fun _ => False) wa w1) w1 w2 x → x < w2.heap.size := fun x hx => by
      rcases hx with h | h
      · rcases h with h | h
        · exact h.elim
        · exact Nat.lt_of_lt_of_le h.2 hB2.size
      · exact h.2
    refine ⟨fun x hx => by rw [alloc_sz]; exact Nat.lt_succ_of_lt (hlt x hx), fun h => Nat.lt_irrefl _ (hlt _ h), ?_, ?_, box_news w2 #[.pointer (some ⟨ps0, 0, none⟩)] 108, PutQ.start _ _ _ _, fun _ h => (by cases h)⟩
    · exact (HM1.out.keep (fun _ h => .inl h) fun b hb => hB2.block b (by rcases hb with h | h; exact h.elim; exact h.2)).keep (fun _ h => h) fun b hb => (gNew w2 _).block b (hlt b hb)
    · exact hM2.keep (fun _ h => h) fun b hb => (gNew w2 _).block b (hlt b hb)
  have HTWO := Lib.hid hTWO
  have HBB : Hid (Below wa.heap.size wa (w2.alloc (.cells #[.pointer (some ⟨ps0, 0, none⟩)] 108)) ∧ wa.heap.size ≤ w2.heap.size) := ⟨gTrans HB1.out (gTrans hB2 (gNew w2 _)), Nat.le_trans HB1.out.size hB2.size⟩
  clear hB2 hM2 hTWO HNS HNEW HNEWS HM1 HB1
  generalize hBk : w2.heap.size = B at *
  generalize w2.alloc (.cells #[.pointer (some ⟨ps0, 0, none⟩)] 108) = w3 at *
  clear hBk
  go_loopg [11, 30] ps.length (fun g s11 s30 wr => ∃ (i : Nat) (S : Nat → Prop) (pm pp : Nat) (l : List (ByteArray × Int)), i + g = ps.length ∧ s11 = .pointer (some ⟨pm, 0, none⟩) ∧ s30 = .int .i64 i ∧ Two kk nn (qsOf ps) B wr S pm pp i l ∧ Below (w.heap.size + 1) wa wr)
  case atStart => exact ⟨0, _, pm0, ps0, [], by omega, rfl, rfl, HTWO.out, HBB.out.1.mono QS.out.2.2⟩
  case round =>
    obtain ⟨i, S, pm, pp, l, hig, rfl, rfl, hT, hB⟩ := hrel
    have hlt' : i < ps.length ∨ i = ps.length := by omega
    rcases hlt' with hlt | rfl
    · obtain ⟨b, o, rfl, hR⟩ := HROW.out (by omega)
      obtain ⟨p, hp⟩ : ∃ p, ps[i]? = some p := ⟨_, List.getElem?_eq_getElem hlt⟩
      obtain ⟨c0, c1, c2⟩ := hR.pr hp
      obtain ⟨q0, q2, hw1⟩ := QS.out
      have hwr : w.heap.size + 1 ≤ wr.heap.size := Nat.le_trans hw1 hB.size
      have hBw : Below w.heap.size w wr := HB.out.trans (hB.mono (by omega))
      have r0 := (hB.cell (p := ⟨w.heap.size, 0, none⟩) (by show w.heap.size < w.heap.size + 1; omega)).trans q0
      have s0 := gCell hBw c0
      have s1 := gCell hBw c1
      have s2 := gCell hBw c2
      have hgn := gNew wr (.cells #[.int .i64 p.key, .string p.text, .int .i64 p.val] 59)
      have t0 : (wr.alloc (.cells #[.int .i64 p.key, .string p.text, .int .i64 p.val] 59)).cell? ⟨wr.heap.size, 0, none⟩ = some (.int .i64 p.key) := by go_simp
      have t1 : (wr.alloc (.cells #[.int .i64 p.key, .string p.text, .int .i64 p.val] 59)).cell? ⟨wr.heap.size, 1, none⟩ = some (.string p.text) := by go_simp
      have t2 : (wr.alloc (.cells #[.int .i64 p.key, .string p.text, .int .i64 p.val] 59)).cell? ⟨wr.heap.size, 2, none⟩ = some (.int .i64 p.val) := by go_simp
      have u0 := gCell hgn r0
      have uB := gCell hgn (hT.box.cell (j := 0) rfl)
      have hT1 : ∀ x, S x → x < (wr.alloc (.cells #[.int .i64 p.key, .string p.text, .int .i64 p.val] 59)).heap.size := fun x hx => Nat.lt_of_lt_of_le (hT.lt x hx) hgn.size
      have hii : (i : Int) < (ps.length : Int) := by omega
      have hbl := hT.box.lt
      have HQ : Hid ((qsOf ps)[i]? = some (zeroP true (keyP true p))) := by
        show (qsOf ps)[i]? = some _
        unfold qsOf
        rw [List.getElem?_map, hp]; rfl
      have HWF : Hid (I64 p.key) := HPS.out p (List.mem_of_getElem? hp)
      have hln : l.length < 9223372036854775807 := by have := hT.put.len; rw [List.length_map] at this; omega
      have HSET := Lib.hid (Nss.setAdd kk nn p.text (by first | exact HWF.out | trivial) S (wr.alloc (.cells #[.int .i64 p.key, .string p.text, .int .i64 p.val] 59)).drew hT1 pp i l (hT.ms.keep (fun _ h => h) fun b hb => hgn.block b (hT.lt b hb)) hln)
      have HT := Lib.hid hT
      have HGN := Lib.hid hgn
      have HBR := Lib.hid hB
      have HIG := Lib.hid hig
      have HWR := Lib.hid hwr
      have HBG : Hid (w.heap.size + 1 ≤ B) := Nat.le_trans QS.out.2.2 HBB.out.2
      have HBL := Lib.hid hbl
      clear hB hBw c0 c1 c2 hR q0 q2 hw1 hT hgn hwr hig hp hT1 hbl
      go_upto_region 7 with (fail)
      clear r0 s0 s1 s2
      generalize hwc : wr.alloc (.cells #[.int .i64 p.key, .string p.text, .int .i64 p.val] 59) = wc at *
      refine wp_region_still_tail 8 (by kernel_rfl) (by kernel_rfl) ?_
      simp only [List.take_succ_cons, List.take_zero, List.drop_succ_cons, List.drop_zero]
      change wpStill _ _ wc.drew _ _ _
      repeat still_step
      still_call (keyS p.key p.text wc.drew)
      repeat still_step
      refine wpStill_nil ?_
      go_wp2_with (go_at_call 46; refine HSET.out.mono ?_; rintro e w5 ⟨p', rfl, hB5, hM5⟩; have hW5 := HT.out.box.grow (gTrans (below_drew HGN.out) hB5); have x0 := hW5.cell (j := 0) rfl; have f0 := hW5.frozen 0; have HB5 := Lib.hid hB5; have HM5 := Lib.hid hM5; have HW5 := Lib.hid hW5; clear hB5 hM5 hW5)
      clear x0 f0
      go_roundg (gk - 1)
      case measure => have := HIG.out; omega
      case rel =>
        have hig := HIG.out
        have hs := HT.out.step (below_drew HGN.out) HB5.out HM5.out HQ.out rfl
        have hB6 : Below (w.heap.size + 1) wr w5 := (gTrans (below_drew HGN.out) HB5.out).mono HWR.out
        exact ⟨i + 1, _, pm, p', _, by omega, rfl, by simp, hs, HBR.out.trans (below_upd hB6 (whole_set HW5.out (.pointer (some ⟨p', 0, none⟩)) (i := 0) (by simp)).2 HBG.out)⟩
    · have hE := putAll_end (txt := true) (kk := kk) (nn := nn) (ps := qsOf ps) (i := ps.length) (by unfold qsOf; simp) hT.put.run
      have HLL : Hid (l.length ≤ ps.length) := by have := hT.put.len; rw [List.length_map] at this; exact this
      have h1620 : ps.length < 16 ^ 20 := Nat.lt_of_le_of_lt hlen (by decide)
      have h020 : 0 < 16 ^ 20 := by decide
      have uB := hT.box.cell (j := 0) rfl
      have hbl := hT.box.lt
      obtain ⟨q0, q2, hw1⟩ := QS.out
      have r0 := (hB.cell (p := ⟨w.heap.size, 0, none⟩) (by show w.heap.size < w.heap.size + 1; omega)).trans q0
      have r2 := (hB.cell (p := ⟨w.heap.size, 2, none⟩) (by show w.heap.size < w.heap.size + 1; omega)).trans q2
      have HIT1 := Lib.hid (fun (W : World) (hW : Below wr.heap.size wr W) => Nsi.mapIter kk nn S W (fun x hx => Nat.lt_of_lt_of_le (hT.lt x hx) hW.size) pm 0 h020 [] (hT.mm.keep (fun _ h => h) fun b hb => hW.block b (hT.lt b hb)))
      have HIT2 := Lib.hid (fun (W : World) (hW : Below wr.heap.size wr W) => Nss.setIter kk nn S W (fun x hx => Nat.lt_of_lt_of_le (hT.lt x hx) hW.size) pp ps.length h1620 l (hT.ms.keep (fun _ h => h) fun b hb => hW.block b (hT.lt b hb)))
      have HSLT := Lib.hid hT.lt
      have hzero := hT.zero
      have HBR := Lib.hid hB
      have hwr : w.heap.size + 1 ≤ wr.heap.size := Nat.le_trans hw1 hB.size
      have HWR := Lib.hid hwr
      have HE := Lib.hid hE
      clear hT hE hB q0 q2 hw1 hbl hwr
      go_upto_region 10 with (fail)
      go_region_held3 (fun W : World => W.cell? ⟨B, 0, none⟩ = some (.pointer (some ⟨pp, 0, none⟩))) (first | exact uB | exact K5.out | exact K6.out)
        ((first | (go_at_call 76; refine (HIT1.out _ (below_drew (gRefl _))).mono ?_; rintro e w5 ⟨rfl, hB5, hI1⟩; have hb5 := gTrans (below_drew (gRefl wr)) hB5; have K5 := Lib.hid (gCell hb5 uB); have HB5 := Lib.hid hb5; have HI1 := Lib.hid hI1; clear hB5 hb5 hI1) | (go_at_call 51; refine (HIT2.out _ HB5.out).mono ?_; rintro e w6 ⟨si, it2, rfl, hB6, hs1, hs2, hs3, hs4, qsi, hI2⟩; have K6 := Lib.hid (gCell hB6 K5.out); have HB6 := Lib.hid hB6; have HI2 := Lib.hid hI2; clear hB6 hI2)))
      have hwd : wr.drew.heap.size = wr.heap.size := rfl
      have hi1 : wr.heap.size < w5.heap.size := HI1.out.lt
      have hlt2 := HI2.out.lt
      have r0 := gCell HB6.out (gCell HB5.out r0)
      have r2 := gCell HB6.out (gCell HB5.out r2)
      clear uB
      have hITS : Its kk nn S wr.heap.size si it2 pm pp ps.length w6.heap.size l (landP 0 l.length) w6 := by
        have hS5 : ∀ x, S x → x < w5.heap.size := fun x hx => Nat.lt_of_lt_of_le (HSLT.out x hx) HB5.out.size
        have h56 := HB6.out.size
        have h1' := HI1.out.grow hS5 HB6.out
        exact ⟨fun x hx => Nat.lt_of_lt_of_le (hS5 x hx) h56, by omega, hlt2, hs4, Nat.le_refl _, by omega, by omega, hs3, qsi, h1620,
          HI2.out, _, h1'⟩
      have HITS := Lib.hid hITS
      have HB6W : Hid (Below w.heap.size w w6 ∧ w.heap.size < wr.heap.size ∧ wr.heap.size < w6.heap.size ∧ w.heap.size ≤ it2) := ⟨(HB.out.trans (HBR.out.mono (Nat.le_succ _))).trans ((gTrans HB5.out HB6.out).mono (Nat.le_trans (Nat.le_succ _) HWR.out)), HWR.out, Nat.lt_of_lt_of_le hi1 HB6.out.size, Nat.le_trans (Nat.le_trans (Nat.le_succ _) HWR.out) (Nat.le_trans (Nat.le_of_lt hi1) hs2)⟩
      have HZR := Lib.hid hzero
      clear hzero
      have HI1w := Lib.hid hi1
      have HS2 := Lib.hid hs2
      clear hITS hwd hs1 hs2 hs3 hs4 qsi hlt2 hi1 HI1 HI2 K5 K6 h020 h1620
      have R0 := Lib.hid r0
      have R2 := Lib.hid r2
      clear r0 r2
      generalize hLD : putAll true kk nn (qsOf ps) [] = L at *
      have HLD := Lib.hid hLD
      clear hLD
      have HLEN : Hid (L.length = l.length) := by have h := HE.out; show _ = _; rw [← h, List.length_map]
      have HGET : Hid (∀ n x, l[n]? = some x → L[n]? = some (embS x)) := fun n x hx => by rw [← HE.out, List.getElem?_map, hx]; rfl
      have HSEEK : Hid (∀ op mk mt, seekP true kk nn L ⟨op, mk, mt⟩ = pos (Nsi.f kk nn mt) l) := fun op mk mt => by
        unfold seekP
        rw [← HE.out, pos_map]
        rfl
      have HSL : Hid (∀ m, seekP true kk nn L m ≤ L.length) := fun m => pos_le _ _
      have HNW : Hid (w.heap.size < it2) := Nat.lt_of_lt_of_le HWR.out (Nat.le_trans (Nat.le_of_lt HI1w.out) HS2.out)
      generalize hIT1 : wr.heap.size = it1 at *
      clear hIT1
      obtain ⟨i0, hi, hz0, hz1, hz2⟩ := info_parts infoA
      generalize hM6 : w6.heap.size = M at *
      have HM6 : Hid (w6.heap.size = M) := hM6
      clear hM6
      have ht0 : landP 0 l.length = landP 0 L.length := by rw [HLEN.out]
      rw [ht0] at HITS
      have hl0 : -1 ≤ landP 0 L.length ∧ landP 0 L.length < L.length := land_range (Nat.zero_le _)
      clear ht0
      generalize hTD : landP 0 L.length = t0 at *
      have HTD := Lib.hid hTD
      clear hTD
      go_upto_region 13 with (fail)
      go_loopg [17, 62] ms.length (fun g s17 s62 wq => ∃ (i : Nat) (t : Int) (outs : List (Pr × Bool × Bool)), i + g = ms.length ∧ s62 = .int .i64 i ∧ WalkSo (seekP true kk nn L) L t0 ms i t outs ∧ Its kk nn S it1 si it2 pm pp ps.length M l t wq ∧ wq.ownsRow M 61 5 s17 outs.length (was outs) ∧ But M it1 it2 w6 wq)
      case atStart => exact ⟨0, t0, [], by omega, rfl, ⟨hl0.1, hl0.2, rfl, rfl⟩, HITS.out, World.ownsRow_nil _ _ _ _, But.refl _ _ _ _⟩
      case round =>
        obtain ⟨i, t, outs, hig, rfl, hso, hits, hown, hbut⟩ := hrel
        have hlt' : i < ms.length ∨ i = ms.length := by omega
        rcases hlt' with hlt | rfl
        · obtain ⟨b, o, rfl, hR⟩ := HROWM.out (by omega)
          obtain ⟨⟨op, mk, mt⟩, hp⟩ : ∃ m, ms[i]? = some m := ⟨_, List.getElem?_eq_getElem hlt⟩
          have hc := hR.mv hp
          dsimp only at hc
          obtain ⟨c0, c1, c2⟩ := hc
          obtain ⟨hw6, hwi, hiM, hi2w⟩ := HB6W.out
          have hmw : ∀ k, k < w.heap.size → k < M ∧ k ≠ it1 ∧ k ≠ it2 := fun k hk => ⟨by omega, by omega, by omega⟩
          have hwq : M ≤ wr.heap.size := hits.hM
          have hbl : b < w.heap.size := World.block_lt_of_cell? w _ c0
          obtain ⟨m1, m2, m3⟩ := hmw b hbl
          have s0 := hbut.cell (p := ⟨b, o + i * 3, none⟩) m1 m2 m3 (gCell hw6 c0)
          have s1 := hbut.cell (p := ⟨b, o + i * 3 + 1, none⟩) m1 m2 m3 (gCell hw6 c1)
          have s2 := hbut.cell (p := ⟨b, o + i * 3 + 2, none⟩) m1 m2 m3 (gCell hw6 c2)
          have r0 := hbut.cell (p := ⟨w.heap.size, 0, none⟩) (by show w.heap.size < M; omega) (by show w.heap.size ≠ it1; omega) (by show w.heap.size ≠ it2; have := HNW.out; omega) R0.out
          have r2 := hbut.cell (p := ⟨w.heap.size, 2, none⟩) (by show w.heap.size < M; omega) (by show w.heap.size ≠ it1; omega) (by show w.heap.size ≠ it2; have := HNW.out; omega) R2.out
          have hii : (i : Int) < (ms.length : Int) := by omega
          have HM : Hid (0 ≤ op ∧ op ≤ 4 ∧ I64 mk) := let h := HMS.out ⟨op, mk, mt⟩ (List.mem_of_getElem? hp); ⟨h.lo, h.hi, h.key⟩
          have htr : t = -1 ∨ ∃ n : Nat, t = n ∧ n < l.length := by
            have h1 := hso.lo
            have h2 := hso.hi
            rw [HLEN.out] at h2
            by_cases h : t < 0
            · exact .inl (by omega)
            · exact .inr ⟨t.toNat, by omega, by omega⟩
          have HTR := Lib.hid htr
          have HSO := Lib.hid hso
          have HOWN := Lib.hid hown
          have HBUT := Lib.hid hbut
          have HIG := Lib.hid hig
          have HWQ := Lib.hid hwq
          have hb2 := gNew2 wr (.cells #[.int .u8 op, .int .i64 mk, .string mt] 46) (.cells #[.int .i64 0, .string ⟨#[]⟩, .int .i64 0, .bool false, .bool false] 61)
          have HB2 := Lib.hid hb2
          have y0 := gCell hb2 r0
          have y2 := gCell hb2 r2
          have HIB := Lib.hid (hits.below (hb2.mono hwq))
          have HSTEP : Hid (∀ d, moveSays L op t (moveAt (pos (Nsi.f kk nn mt) l) l.length op t) = d → WalkSo (seekP true kk nn L) L t0 ms (i + 1) (moveAt (pos (Nsi.f kk nn mt) l) l.length op t) (outs ++ [d])) := by
            intro d hd
            have h := HSO.out.step hp (HSL.out _)
            rw [HSEEK.out, HLEN.out] at h
            rw [← hd]
            exact h
          have hA1 : it1 < wr.heap.size + 1 := by have := hits.b1; omega
          have hA2 : it2 < wr.heap.size + 1 := by have := hits.b2; omega
          have HA : Hid (wr.heap.size + 1 ≠ it1 ∧ wr.heap.size + 1 ≠ it2) := ⟨by omega, by omega⟩
          clear hso hown hbut hig hits hb2 c0 c1 c2 hp htr hR hw6 hwi hiM hi2w hmw hwq hbl hA1 hA2 m1 m2 m3
          go_upto_block 4 with (go_at_call 55; refine (keyS mk mt _).mono ?_; rintro e wz ⟨rfl, hwz⟩; subst hwz)
          have HWA := Lib.hid (box2 wr (.cells #[.int .u8 op, .int .i64 mk, .string mt] 46) #[.int .i64 0, .string ⟨#[]⟩, .int .i64 0, .bool false, .bool false] 61)
          have HBB2 : Hid (But wr.heap.size it1 it2 wr ((wr.alloc (.cells #[.int .u8 op, .int .i64 mk, .string mt] 46)).alloc (.cells #[.int .i64 0, .string ⟨#[]⟩, .int .i64 0, .bool false, .bool false] 61))) := But.of_below HB2.out
          have HNWA : Hid (w.heap.size ≠ wr.heap.size + 1) := by have h1 := HWQ.out; have h2 := HB6W.out; show _ ≠ _; omega
          have HNEI : Hid (wr.heap.size + 1 ≠ it2) := HA.out.2
          have HNWI : Hid (some w.heap.size ≠ some it2) := by intro e; injection e with e; have := HNW.out; omega
          clear s0 s1 s2 r0 r2
          generalize (wr.alloc (.cells #[.int .u8 op, .int .i64 mk, .string mt] 46)).alloc (.cells #[.int .i64 0, .string ⟨#[]⟩, .int .i64 0, .bool false, .bool false] 61) = wb at *
          go_cut [] (fun wy => Res kk nn S it1 si it2 pm pp ps.length M l L wr (wr.heap.size + 1) op t (moveAt (pos (Nsi.f kk nn mt) l) l.length op t) wy)
          case first =>
            rcases five_ops HM.out.1 HM.out.2.1 with rfl | rfl | rfl | rfl | rfl
            · go_wp2_with (first | (go_at_call 77; refine (HIB.out.first1).mono ?_; rintro e w5 ⟨rfl, hg5, hi5⟩; have HG5 := Lib.hid hg5; have HI5 := Lib.hid hi5; clear hg5 hi5) | (go_at_call 78; refine (HI5.out.first2).mono ?_; rintro e w6x ⟨rfl, hg6, hi6⟩; have HG6 := Lib.hid hg6; have HI6 := Lib.hid hi6; clear hg6 hi6))
              go_meet
              exact ⟨pr0, false, whole_by (whole_by HWA.out HG5.out HA.out.1) HG6.out HA.out.2, but_right (but_left HBB2.out HG5.out) HG6.out, HI6.out, says_none (by omega)⟩
            · go_wp2_with (first | (go_at_call 79; refine (HIB.out.last1).mono ?_; rintro e w5 ⟨rfl, hg5, hi5⟩; have HG5 := Lib.hid hg5; have HI5 := Lib.hid hi5; clear hg5 hi5) | (go_at_call 52; refine (HI5.out.last2).mono ?_; rintro e w6x ⟨rfl, hg6, hi6⟩; have HG6 := Lib.hid hg6; have HI6 := Lib.hid hi6; clear hg6 hi6))
              go_meet
              exact ⟨pr0, false, whole_by (whole_by HWA.out HG5.out HA.out.1) HG6.out HA.out.2, but_right (but_left HBB2.out HG5.out) HG6.out, HI6.out, says_none (by omega)⟩
            · rcases HTR.out with rfl | ⟨n, rfl, hn⟩
              · go_upto_region 30 with (go_at_call 80; refine HIB.out.next_done.mono ?_; rintro e w5 ⟨rfl, hg5, hi5⟩; have hW5 := whole_by HWA.out hg5 HNEI.out; have x3 := hW5.cell (j := 3) rfl; have f3 := hW5.frozen 3; have HW5 := Lib.hid hW5; have HG5 := Lib.hid hg5; have HI5 := Lib.hid hi5; clear hW5 hg5 hi5)
                have g2 := HG5.out.cell y2 HNWI.out
                obtain ⟨hW6, hU6⟩ := whole_set HW5.out (.bool false) (i := 3) (by simp)
                have g2 := hU6.cell (p := ⟨w.heap.size, 2, none⟩) HNWA.out g2
                have HW6 := Lib.hid hW6
                have HU6 := Lib.hid hU6
                clear x3 f3 hW6 hU6 y0 y2
                generalize w5.setCell ⟨wr.heap.size + 1, 3, none⟩ (.bool false) = w6x at *
                go_wp2_with (go_at_call 58; refine (pairS ((⟨#[]⟩ : ByteArray)) 0 _).mono ?_; rintro e w7 ⟨rfl, hB7⟩; have hW7 := HW6.out.grow hB7; have x0 := hW7.cell (j := 0) rfl; have x1 := hW7.cell (j := 1) rfl; have x2 := hW7.cell (j := 2) rfl; have f0 := hW7.frozen 0; have f1 := hW7.frozen 1; have f2 := hW7.frozen 2; have HW7 := Lib.hid hW7; have HB7 := Lib.hid hB7; clear hW7 hB7)
                go_meet
                obtain ⟨hW8, hU8⟩ := whole_set3 HW7.out (.int .i64 (embS ((⟨#[]⟩ : ByteArray), 0)).key) (.string (embS ((⟨#[]⟩ : ByteArray), 0)).text) (.int .i64 (embS ((⟨#[]⟩ : ByteArray), 0)).val)
                exact ⟨pr0, false, hW8, but_upd (but_below (but_upd (but_right HBB2.out HG5.out) HU6.out (Nat.le_succ _)) HB7.out) hU8 (Nat.le_succ _),
                  ((HI5.out.below (HU6.out.below (Nat.le_succ_of_le HWQ.out))).below (HB7.out.mono (HI5.out.below (HU6.out.below (Nat.le_succ_of_le HWQ.out))).hM)).below (hU8.below (Nat.le_succ_of_le HWQ.out)), says_none (by omega)⟩
              · obtain ⟨x, hx⟩ : ∃ x, l[n]? = some x := ⟨_, List.getElem?_eq_getElem hn⟩
                have HX := Lib.hid hx
                have HMV : Hid (moveAt (pos (Nsi.f kk nn mt) l) l.length 2 n = landP (n + 1) l.length) := by
                  show _ = _
                  unfold moveAt
                  rw [if_neg (by decide), if_neg (by decide), if_pos rfl, if_neg (by omega), Int.toNat_natCast]
                have HX2 : Hid ((x.1, (0 : Int)) = x) := by
                  have h := HZR.out x (List.mem_of_getElem? hx)
                  show _ = _
                  rw [← h]
                clear hx
                go_upto_region 30 with (go_at_call 80; refine (HIB.out.next_at HX.out).mono ?_; rintro e w5 ⟨rfl, hg5, hi5⟩; have hW5 := whole_by HWA.out hg5 HNEI.out; have x3 := hW5.cell (j := 3) rfl; have f3 := hW5.frozen 3; have HW5 := Lib.hid hW5; have HG5 := Lib.hid hg5; have HI5 := Lib.hid hi5; clear hW5 hg5 hi5)
                have g2 := HG5.out.cell y2 HNWI.out
                obtain ⟨hW6, hU6⟩ := whole_set HW5.out (.bool true) (i := 3) (by simp)
                have g2 := hU6.cell (p := ⟨w.heap.size, 2, none⟩) HNWA.out g2
                have HW6 := Lib.hid hW6
                have HU6 := Lib.hid hU6
                clear x3 f3 hW6 hU6 y0 y2
                generalize w5.setCell ⟨wr.heap.size + 1, 3, none⟩ (.bool true) = w6x at *
                go_wp2_with (go_at_call 58; refine (pairS x.1 0 _).mono ?_; rintro e w7 ⟨rfl, hB7⟩; have hW7 := HW6.out.grow hB7; have x0 := hW7.cell (j := 0) rfl; have x1 := hW7.cell (j := 1) rfl; have x2 := hW7.cell (j := 2) rfl; have f0 := hW7.frozen 0; have f1 := hW7.frozen 1; have f2 := hW7.frozen 2; have HW7 := Lib.hid hW7; have HB7 := Lib.hid hB7; clear hW7 hB7)
                go_meet
                obtain ⟨hW8, hU8⟩ := whole_set3 HW7.out (.int .i64 (embS (x.1, 0)).key) (.string (embS (x.1, 0)).text) (.int .i64 (embS (x.1, 0)).val)
                have hsay := says_some (op := 2) (t' := moveAt (pos (Nsi.f kk nn mt) l) l.length 2 n) (.inl rfl) (HGET.out n x HX.out)
                rw [← HX2.out] at hsay
                refine ⟨_, true, hW8, but_upd (but_below (but_upd (but_right HBB2.out HG5.out) HU6.out (Nat.le_succ _)) HB7.out) hU8 (Nat.le_succ _), ?_, hsay⟩
                rw [HMV.out]
                exact ((HI5.out.below (HU6.out.below (Nat.le_succ_of_le HWQ.out))).below (HB7.out.mono (HI5.out.below (HU6.out.below (Nat.le_succ_of_le HWQ.out))).hM)).below (hU8.below (Nat.le_succ_of_le HWQ.out))
            · rcases HTR.out with rfl | ⟨n, rfl, hn⟩
              · go_upto_region 35 with (go_at_call 54; refine HIB.out.prev_done.mono ?_; rintro e w5 ⟨rfl, hg5, hi5⟩; have hW5 := whole_by HWA.out hg5 HNEI.out; have x3 := hW5.cell (j := 3) rfl; have f3 := hW5.frozen 3; have HW5 := Lib.hid hW5; have HG5 := Lib.hid hg5; have HI5 := Lib.hid hi5; clear hW5 hg5 hi5)
                have g2 := HG5.out.cell y2 HNWI.out
                obtain ⟨hW6, hU6⟩ := whole_set HW5.out (.bool false) (i := 3) (by simp)
                have g2 := hU6.cell (p := ⟨w.heap.size, 2, none⟩) HNWA.out g2
                have HW6 := Lib.hid hW6
                have HU6 := Lib.hid hU6
                clear x3 f3 hW6 hU6 y0 y2
                generalize w5.setCell ⟨wr.heap.size + 1, 3, none⟩ (.bool false) = w6x at *
                go_wp2_with (go_at_call 58; refine (pairS ((⟨#[]⟩ : ByteArray)) 0 _).mono ?_; rintro e w7 ⟨rfl, hB7⟩; have hW7 := HW6.out.grow hB7; have x0 := hW7.cell (j := 0) rfl; have x1 := hW7.cell (j := 1) rfl; have x2 := hW7.cell (j := 2) rfl; have f0 := hW7.frozen 0; have f1 := hW7.frozen 1; have f2 := hW7.frozen 2; have HW7 := Lib.hid hW7; have HB7 := Lib.hid hB7; clear hW7 hB7)
                go_meet
                obtain ⟨hW8, hU8⟩ := whole_set3 HW7.out (.int .i64 (embS ((⟨#[]⟩ : ByteArray), 0)).key) (.string (embS ((⟨#[]⟩ : ByteArray), 0)).text) (.int .i64 (embS ((⟨#[]⟩ : ByteArray), 0)).val)
                exact ⟨pr0, false, hW8, but_upd (but_below (but_upd (but_right HBB2.out HG5.out) HU6.out (Nat.le_succ _)) HB7.out) hU8 (Nat.le_succ _),
                  ((HI5.out.below (HU6.out.below (Nat.le_succ_of_le HWQ.out))).below (HB7.out.mono (HI5.out.below (HU6.out.below (Nat.le_succ_of_le HWQ.out))).hM)).below (hU8.below (Nat.le_succ_of_le HWQ.out)), says_none (by omega)⟩
              · obtain ⟨x, hx⟩ : ∃ x, l[n]? = some x := ⟨_, List.getElem?_eq_getElem hn⟩
                have HX := Lib.hid hx
                have HMV : Hid (moveAt (pos (Nsi.f kk nn mt) l) l.length 3 n = (n : Int) - 1) := by
                  show _ = _
                  unfold moveAt
                  rw [if_neg (by decide), if_neg (by decide), if_neg (by decide), if_pos rfl, if_neg (by omega)]
                have HX2 : Hid ((x.1, (0 : Int)) = x) := by
                  have h := HZR.out x (List.mem_of_getElem? hx)
                  show _ = _
                  rw [← h]
                clear hx
                go_upto_region 35 with (go_at_call 54; refine (HIB.out.prev_at HX.out).mono ?_; rintro e w5 ⟨rfl, hg5, hi5⟩; have hW5 := whole_by HWA.out hg5 HNEI.out; have x3 := hW5.cell (j := 3) rfl; have f3 := hW5.frozen 3; have HW5 := Lib.hid hW5; have HG5 := Lib.hid hg5; have HI5 := Lib.hid hi5; clear hW5 hg5 hi5)
                have g2 := HG5.out.cell y2 HNWI.out
                obtain ⟨hW6, hU6⟩ := whole_set HW5.out (.bool true) (i := 3) (by simp)
                have g2 := hU6.cell (p := ⟨w.heap.size, 2, none⟩) HNWA.out g2
                have HW6 := Lib.hid hW6
                have HU6 := Lib.hid hU6
                clear x3 f3 hW6 hU6 y0 y2
                generalize w5.setCell ⟨wr.heap.size + 1, 3, none⟩ (.bool true) = w6x at *
                go_wp2_with (go_at_call 58; refine (pairS x.1 0 _).mono ?_; rintro e w7 ⟨rfl, hB7⟩; have hW7 := HW6.out.grow hB7; have x0 := hW7.cell (j := 0) rfl; have x1 := hW7.cell (j := 1) rfl; have x2 := hW7.cell (j := 2) rfl; have f0 := hW7.frozen 0; have f1 := hW7.frozen 1; have f2 := hW7.frozen 2; have HW7 := Lib.hid hW7; have HB7 := Lib.hid hB7; clear hW7 hB7)
                go_meet
                obtain ⟨hW8, hU8⟩ := whole_set3 HW7.out (.int .i64 (embS (x.1, 0)).key) (.string (embS (x.1, 0)).text) (.int .i64 (embS (x.1, 0)).val)
                have hsay := says_some (op := 3) (t' := moveAt (pos (Nsi.f kk nn mt) l) l.length 3 n) (.inr rfl) (HGET.out n x HX.out)
                rw [← HX2.out] at hsay
                refine ⟨_, true, hW8, but_upd (but_below (but_upd (but_right HBB2.out HG5.out) HU6.out (Nat.le_succ _)) HB7.out) hU8 (Nat.le_succ _), ?_, hsay⟩
                rw [HMV.out]
                exact ((HI5.out.below (HU6.out.below (Nat.le_succ_of_le HWQ.out))).below (HB7.out.mono (HI5.out.below (HU6.out.below (Nat.le_succ_of_le HWQ.out))).hM)).below (hU8.below (Nat.le_succ_of_le HWQ.out))
            · go_wp2_with (first | (go_at_call 83; refine (HIB.out.seek1 mt (by first | exact HM.out.2.2 | trivial)).mono ?_; rintro e w5 ⟨rfl, hg5, hi5⟩; have HG5 := Lib.hid hg5; have HI5 := Lib.hid hi5; clear hg5 hi5) | (go_at_call 84; refine (HI5.out.seek2 mt (by first | exact HM.out.2.2 | trivial)).mono ?_; rintro e w6x ⟨rfl, hg6, hi6⟩; have HG6 := Lib.hid hg6; have HI6 := Lib.hid hi6; clear hg6 hi6))
              go_meet
              exact ⟨pr0, false, whole_by (whole_by HWA.out HG5.out HA.out.1) HG6.out HA.out.2, but_right (but_left HBB2.out HG5.out) HG6.out, HI6.out, says_none (by omega)⟩
          case rest =>
            obtain ⟨q, ok, hW, hbx, hix, hsay⟩ := hcut
            have HWS := Lib.hid (HSTEP.out _ hsay)
            clear hsay HSTEP y0 y2 HIB HTR
            generalize moveAt (pos (Nsi.f kk nn mt) l) l.length op t = t' at *
            have HBX := Lib.hid hbx
            have HIX := Lib.hid hix
            have HW0 := Lib.hid hW
            have q4 := hW.cell (j := 4) rfl
            have f4 := hW.frozen 4
            clear hW hbx hix
            obtain ⟨d, hd⟩ := HIX.out.done1
            have HD := Lib.hid hd
            clear hd
            go_upto_region 40 with (go_at_call 85; refine HD.out.mono ?_; rintro e w5 ⟨rfl, hw5⟩; subst hw5)
            obtain ⟨hW1, hU1⟩ := whole_set HW0.out (.bool d) (i := 4) (by simp)
            have HW1 := Lib.hid hW1
            have HU1 := Lib.hid hU1
            clear q4 f4 hW1 hU1
            generalize w5.setCell ⟨wr.heap.size + 1, 4, none⟩ (.bool d) = wd at *
            have HIX := Lib.hid (HIX.out.below (HU1.out.below (Nat.le_succ_of_le HWQ.out)))
            have q4 := HW1.out.cell (j := 4) rfl
            have f4 := HW1.out.frozen 4
            obtain ⟨hW2, hU2⟩ := whole_set HW1.out (.bool (decide (t' < 0))) (i := 4) (by simp)
            have HW2 : Hid (Whole (wd.setCell ⟨wr.heap.size + 1, 4, none⟩ (.bool (decide (t' < 0)))) (wr.heap.size + 1) (wac (q, ok, decide (t' < 0))) 61) := hW2
            have HU2 := Lib.hid (HU1.out.trans hU2)
            have HIY := Lib.hid (HIX.out.below (hU2.below (Nat.le_succ_of_le HWQ.out)))
            have HBY2 := Lib.hid (but_upd HBX.out HU2.out (Nat.le_succ _))
            clear hW2 hU2
            go_upto_region 42 with (go_at_call 53; refine HIX.out.done2.mono ?_; rintro e w6x ⟨rfl, hw6⟩; subst hw6)
            clear q4 f4
            generalize w6x.setCell ⟨wr.heap.size + 1, 4, none⟩ (.bool (decide (t' < 0))) = w2 at *
            generalize hdd : decide (t' < 0) = dn at *
            clear hdd
            have z0 := HW2.out.cell (j := 0) rfl
            have z1 := HW2.out.cell (j := 1) rfl
            have z2 := HW2.out.cell (j := 2) rfl
            have z3 := HW2.out.cell (j := 3) rfl
            have z4 := HW2.out.cell (j := 4) rfl
            have ho2 := HBY2.out.row HOWN.out (Nat.le_refl _) HIY.out.b1 HIY.out.b2
            have hgn := gNew w2 (.cells (wac (q, ok, dn)).toArray 61)
            have HO3 := Lib.hid (ho2.kept (below_by (g := none) hgn) (by cases Value.ownBlock _ <;> simp))
            have HB3 := Lib.hid (HBUT.out.trans ((but_below HBY2.out hgn).mono HWQ.out))
            have HI3 := Lib.hid (HIY.out.below (hgn.mono HIY.out.hM))
            have HN := Lib.hid (news_of (box_news w2 (wac (q, ok, dn)).toArray 61))
            have hbase : M ≤ (w2.alloc (.cells (wac (q, ok, dn)).toArray 61)).heap.size := Nat.le_trans HIY.out.hM hgn.size
            have HBASE := Lib.hid hbase
            have HLN2 : Hid (outs.length + 1 ≤ 1000000) := by have h1 := HSO.out.len; have h2 := HIG.out; show _ ≤ _; omega
            have HMX : Hid (outs.length + 1 ≤ maxLen) := by show _ ≤ _; simp only [maxLen]; have := HLN2.out; omega
            have HBYT : Hid ((outs.length + 1) * 40 ≤ 140737488355328) := by show _ ≤ _; have := HLN2.out; omega
            clear ho2 hgn hbase
            go_wp2_with ((with_reducible refine at_slot 149 ?_); refine wpList_append_moved _ rfl _ _ 52 rfl M 61 i0 _ 5 40 Tryz.underlying52 hi hz0 hz1 hz2 rfl (by omega) _ outs.length (was outs) (by rfl) HO3.out ⟨w2.heap.size, 0, none⟩ 1 1 (wac (q, ok, dn)) (by rfl) rfl HN.out (oneWac _) HMX.out HBYT.out HBASE.out ?_; intro v3 w3x hown3 hg3 hm3)
            have HLT := Lib.hid HO3.out.lt
            go_roundg (gk - 1)
            case measure => have := HIG.out; omega
            case rel =>
              have hig := HIG.out
              have hb4 := HB3.out.trans (But.of_row hg3 HBASE.out (fun k hk => (HLT.out k hk).1))
              have hi4 := HI3.out.below ((Below.refl M _).grown hg3 HBASE.out (fun k hk => (HLT.out k hk).1))
              refine ⟨i + 1, t', outs ++ [(q, ok, dn)], by omega, by simp, HWS.out, hi4, ?_, hb4⟩
              rw [List.length_append]
              simp only [was, List.flatMap_append, List.flatMap_cons, List.flatMap_nil, List.append_nil]
              exact hown3
        · have HE2 := Lib.hid (walk_end (Nat.le_refl _) hso.run)
          have HOWN := Lib.hid hown
          have HLN := Lib.hid hso.len
          have HBUT := Lib.hid hbut
          clear hso hown hits hbut
          go_wp2
          go_ret
          rw [HLD.out, HTD.out, ← HE2.out, ← HLN.out]
          obtain ⟨h1, h2, h3, h4⟩ := HB6W.out
          refine ⟨_, rfl, own_base HOWN.out (by omega), ?_⟩
          exact ⟨HBUT.out.os.trans h1.os, HBUT.out.tape.trans h1.tape, HBUT.out.output.trans h1.output, Nat.le_trans h1.size HBUT.out.size, fun k hk => (HBUT.out.block k (by omega) (by omega) (by omega)).trans (h1.block k hk)⟩
end WT1
end Go.Proofs.YtfejflhgaphilaaGreatDoor

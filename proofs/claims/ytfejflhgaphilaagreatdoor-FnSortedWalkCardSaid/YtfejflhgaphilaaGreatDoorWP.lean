/-
  THE WALKS of the thin package's SortedWalk and of its closure.
-/
import Derived.Test.YtfejflhgaphilaaGreatDoorWOI0
import Derived.Test.YtfejflhgaphilaaGreatDoorWOI1
import Derived.Test.YtfejflhgaphilaaGreatDoorWOT0
import Derived.Test.YtfejflhgaphilaaGreatDoorWOT1
import Derived.Test.YtfejflhgaphilaaGreatDoorWK
set_option linter.all false
set_option linter.unusedVariables false
set_option linter.unusedSimpArgs false
set_option linter.unusedSectionVars false
namespace Go.Proofs.YtfejflhgaphilaaGreatDoor
open Go.RowKit Go.Sort Lst

def walkL (txt set : Bool) (kk nn : Int) (ps : List Pr) : List Pr := putAll txt kk nn (ps.map fun p => zeroP set (keyP txt p)) []
def walkAns (txt set : Bool) (kk nn : Int) (ps : List Pr) (ms : List Mv) : List (Pr × Bool × Bool) := walkRun (seekP txt kk nn (walkL txt set kk nn ps)) (walkL txt set kk nn ps) (landP 0 (walkL txt set kk nn ps).length) ms

/-- What the walk of sortedWalk leaves. -/
def Walked (txt set : Bool) (kk nn : Int) (ps : List Pr) (ms : List Mv) (w : World) (e : Ending) (w' : World) : Prop :=
  ∃ v', e = .returned v' ∧ w'.ownsRow w.heap.size 61 5 v' ms.length (was (walkAns txt set kk nn ps ms)) ∧ Below w.heap.size w w'

theorem sw_int (set : Bool) (kk nn : Int) (ps : List Pr) (ms : List Mv) (psl msl : Value) (w : World) (hO : OrdOK kk nn) (hps : ∀ p ∈ ps, I64 p.key) (hms : ∀ m ∈ ms, MvOK m) (hlen : ps.length ≤ 800000) (hlen2 : ms.length ≤ 800000)
    (hR : RowV w psl ps.length (prs ps)) (hRm : RowV w msl ms.length (mvs ms)) : Calls Tryz.prog 40 #[keysI, cvI kk nn, .bool set, psl, msl] w (Walked false set kk nn ps ms w) := by
  cases set
  · exact WI0.walk_any kk nn ps ms psl msl w hO hps hms hlen hlen2 hR hRm
  · exact WI1.walk_any kk nn ps ms psl msl w hO hps hms hlen hlen2 hR hRm
theorem sw_text (set : Bool) (kk nn : Int) (ps : List Pr) (ms : List Mv) (psl msl : Value) (w : World) (hO : OrdOK kk nn) (hps : ∀ p ∈ ps, I64 p.key) (hms : ∀ m ∈ ms, MvOK m) (hlen : ps.length ≤ 800000) (hlen2 : ms.length ≤ 800000)
    (hR : RowV w psl ps.length (prs ps)) (hRm : RowV w msl ms.length (mvs ms)) : Calls Tryz.prog 39 #[keysS, cvS kk nn, .bool set, psl, msl] w (Walked true set kk nn ps ms w) := by
  cases set
  · exact WT0.walk_any kk nn ps ms psl msl w hO hps hms hlen hlen2 hR hRm
  · exact WT1.walk_any kk nn ps ms psl msl w hO hps hms hlen hlen2 hR hRm

theorem RowV.one {w : World} {v : Value} {n : Nat} {cs : List Value} (h : RowV w v n cs) : v.oneCell' = true := by
  obtain ⟨a, cap, rfl, _⟩ := h
  rfl

/-- The cells that the closure reads. -/
structure Caps (w : World) (p0 p1 p2 p3 p4 p5 : Nat) (txt set : Bool) (kk nn : Int) (psl msl : Value) : Prop where
  c0 : w.cell? ⟨p0, 0, none⟩ = some (.bool txt)
  c1 : w.cell? ⟨p1, 0, none⟩ = some (.int .u8 kk)
  c1' : w.cell? ⟨p1, 1, none⟩ = some (.int .i64 nn)
  c2 : w.cell? ⟨p2, 0, none⟩ = some (.bool set)
  c3 : w.cell? ⟨p3, 0, none⟩ = some psl
  c4 : w.cell? ⟨p4, 0, none⟩ = some msl
  n0 : p0 ≠ p5
  n1 : p1 ≠ p5
  n2 : p2 ≠ p5
  n3 : p3 ≠ p5
  n4 : p4 ≠ p5
theorem Caps.grow {w w' : World} {p0 p1 p2 p3 p4 p5 : Nat} {txt set : Bool} {kk nn : Int} {psl msl : Value} (h : Caps w p0 p1 p2 p3 p4 p5 txt set kk nn psl msl) (k : Below w.heap.size w w') : Caps w' p0 p1 p2 p3 p4 p5 txt set kk nn psl msl :=
  ⟨gCell k h.c0, gCell k h.c1, gCell k h.c1', gCell k h.c2, gCell k h.c3, gCell k h.c4, h.n0, h.n1, h.n2, h.n3, h.n4⟩
theorem Caps.cells {w : World} {p0 p1 p2 p3 p4 p5 : Nat} {txt set : Bool} {kk nn : Int} {psl msl : Value} (h : Caps w p0 p1 p2 p3 p4 p5 txt set kk nn psl msl) :
    w.cell? ⟨p1, 0, none⟩ = some (.int .u8 kk) ∧ w.cell? ⟨p1, 1, none⟩ = some (.int .i64 nn) ∧ w.cell? ⟨p2, 0, none⟩ = some (.bool set) ∧ w.cell? ⟨p3, 0, none⟩ = some psl ∧ w.cell? ⟨p4, 0, none⟩ = some msl := ⟨h.c1, h.c1', h.c2, h.c3, h.c4⟩
theorem Caps.upd {w w' : World} {p0 p1 p2 p3 p4 p5 : Nat} {txt set : Bool} {kk nn : Int} {psl msl : Value} (h : Caps w p0 p1 p2 p3 p4 p5 txt set kk nn psl msl) (k : Upd p5 w w') : Caps w' p0 p1 p2 p3 p4 p5 txt set kk nn psl msl :=
  ⟨k.cell h.n0 h.c0, k.cell h.n1 h.c1, k.cell h.n1 h.c1', k.cell h.n2 h.c2, k.cell h.n3 h.c3, k.cell h.n4 h.c4, h.n0, h.n1, h.n2, h.n3, h.n4⟩

set_option maxHeartbeats 4000000 in
set_option maxRecDepth 100000 in
theorem closW (txt set : Bool) (kk nn : Int) (ps : List Pr) (ms : List Mv) (psl msl : Value) (w : World) (hO : OrdOK kk nn) (hps : ∀ p ∈ ps, I64 p.key) (hms : ∀ m ∈ ms, MvOK m) (hlen : ps.length ≤ 800000) (hlen2 : ms.length ≤ 800000)
    (hR : RowV w psl ps.length (prs ps)) (hRm : RowV w msl ms.length (mvs ms)) (p0 p1 p2 p3 p4 p5 : Nat) (hc : Caps w p0 p1 p2 p3 p4 p5 txt set kk nn psl msl) (hW : Whole w p5 [.slice none 0 0] 52) :
    Calls Tryz.prog 38 #[.pointer (some ⟨p0, 0, none⟩), .pointer (some ⟨p1, 0, none⟩), .pointer (some ⟨p2, 0, none⟩), .pointer (some ⟨p3, 0, none⟩), .pointer (some ⟨p4, 0, none⟩), .pointer (some ⟨p5, 0, none⟩)] w fun e w' => e = .returned (.tuple #[]) ∧
      w.grownBy w' (some p5) ∧ ∃ v, Whole w' p5 [v] 52 ∧ v.oneCell' = true ∧ w'.ownsRow w.heap.size 61 5 v ms.length (was (walkAns txt set kk nn ps ms)) := by
  have HC := Lib.hid hc
  have HW := Lib.hid hW
  have q0 := hc.c0
  have q1 := hc.c1
  have q1' := hc.c1'
  have q2 := hc.c2
  have q3 := hc.c3
  have q4 := hc.c4
  have o3 := hR.one
  have o4 := hRm.one
  have hS := hc.cells
  have HS := Lib.hid hS
  have hp5 := hW.lt
  cases txt
  · have HCALL : Hid (∀ W, Below w.heap.size w W → Calls Tryz.prog 40 #[keysI, cvI kk nn, .bool set, psl, msl] W (Walked false set kk nn ps ms W)) := fun W hB => sw_int set kk nn ps ms psl msl W hO hps hms hlen hlen2 (hR.grow hB) (hRm.grow hB)
    clear hO hps hms hR hRm hc hW hS
    go_enter Tryz.func38, Tryz.ntmps38
    go_upto_region 2 with (fail)
    go_region_held3 (fun W : World => W.cell? ⟨p1, 0, none⟩ = some (.int .u8 kk) ∧ W.cell? ⟨p1, 1, none⟩ = some (.int .i64 nn) ∧ W.cell? ⟨p2, 0, none⟩ = some (.bool set) ∧ W.cell? ⟨p3, 0, none⟩ = some psl ∧ W.cell? ⟨p4, 0, none⟩ = some msl)
      (first | exact HS.out | exact K5.out | exact K6.out | exact K7.out | exact K8.out)
      ((first | (go_at_call 29; refine (keysOfI _).mono ?_; rintro e w5 ⟨rfl, hB5⟩; have hb5 := gTrans (below_drew (gRefl w)) hB5; have K5 := Lib.hid (HC.out.grow hb5).cells; have HB5 := Lib.hid hb5; clear hB5 hb5) | (go_at_call 30; refine (cmprOfI kk nn _).mono ?_; rintro e w6 ⟨rfl, hB6⟩; have hb6 := gTrans HB5.out hB6; have K6 := Lib.hid (HC.out.grow hb6).cells; have HB6 := Lib.hid hb6; clear hB6 hb6) | (go_at_call 40; refine (HCALL.out _ HB6.out).mono ?_; rintro e w7 ⟨v, rfl, ho7, hB7⟩; have hb7 := gTrans HB6.out hB7; have hW7 := HW.out.grow hb7; have x0 := hW7.cell (j := 0) rfl; have f0 := hW7.frozen 0; obtain ⟨va, vc, rfl, hvc, hvr⟩ := own_rowV ho7; clear hvc hvr; have K7 := Lib.hid (HC.out.grow hb7).cells; have K8 := Lib.hid ((HC.out.grow hb7).upd (whole_set hW7 (.slice va ms.length vc) (i := 0) (by simp)).2).cells; have HB7 := Lib.hid hb7; have HO7 := Lib.hid ho7; have HW7 := Lib.hid hW7; clear hb7 hB7 hW7 ho7)))
    obtain ⟨hW8, hU8⟩ := whole_set HW7.out (.slice va ms.length vc) (i := 0) (by simp)
    have hlt := HO7.out.lt
    have h56 := HB6.out.size
    refine bodyPost_end (v := .tuple #[]) (by simp [results, Tryz.results38, go_sem]) rfl ⟨rfl, below_upd_by HB7.out hU8, .slice va ms.length vc, hW8, rfl, own_base (HO7.out.kept (row := some p5) hU8.by_ ?_) h56⟩
    cases hv : Value.ownBlock (.slice va ms.length vc) with
    | none => exact .inl rfl
    | some k => exact .inr (by intro e; injection e with e; have := (hlt k hv).1; omega)
  · have HCALL : Hid (∀ W, Below w.heap.size w W → Calls Tryz.prog 39 #[keysS, cvS kk nn, .bool set, psl, msl] W (Walked true set kk nn ps ms W)) := fun W hB => sw_text set kk nn ps ms psl msl W hO hps hms hlen hlen2 (hR.grow hB) (hRm.grow hB)
    clear hO hps hms hR hRm hc hW hS
    go_enter Tryz.func38, Tryz.ntmps38
    go_upto_region 1 with (fail)
    go_region_held3 (fun W : World => W.cell? ⟨p1, 0, none⟩ = some (.int .u8 kk) ∧ W.cell? ⟨p1, 1, none⟩ = some (.int .i64 nn) ∧ W.cell? ⟨p2, 0, none⟩ = some (.bool set) ∧ W.cell? ⟨p3, 0, none⟩ = some psl ∧ W.cell? ⟨p4, 0, none⟩ = some msl)
      (first | exact HS.out | exact K5.out | exact K6.out | exact K7.out | exact K8.out)
      ((first | (go_at_call 26; refine (keysOfS _).mono ?_; rintro e w5 ⟨rfl, hB5⟩; have hb5 := gTrans (below_drew (gRefl w)) hB5; have K5 := Lib.hid (HC.out.grow hb5).cells; have HB5 := Lib.hid hb5; clear hB5 hb5) | (go_at_call 27; refine (cmprOfS kk nn _).mono ?_; rintro e w6 ⟨rfl, hB6⟩; have hb6 := gTrans HB5.out hB6; have K6 := Lib.hid (HC.out.grow hb6).cells; have HB6 := Lib.hid hb6; clear hB6 hb6) | (go_at_call 39; refine (HCALL.out _ HB6.out).mono ?_; rintro e w7 ⟨v, rfl, ho7, hB7⟩; have hb7 := gTrans HB6.out hB7; have hW7 := HW.out.grow hb7; have x0 := hW7.cell (j := 0) rfl; have f0 := hW7.frozen 0; obtain ⟨va, vc, rfl, hvc, hvr⟩ := own_rowV ho7; clear hvc hvr; have K7 := Lib.hid (HC.out.grow hb7).cells; have K8 := Lib.hid ((HC.out.grow hb7).upd (whole_set hW7 (.slice va ms.length vc) (i := 0) (by simp)).2).cells; have HB7 := Lib.hid hb7; have HO7 := Lib.hid ho7; have HW7 := Lib.hid hW7; clear hb7 hB7 hW7 ho7)))
    obtain ⟨hW8, hU8⟩ := whole_set HW7.out (.slice va ms.length vc) (i := 0) (by simp)
    have hlt := HO7.out.lt
    have h56 := HB6.out.size
    refine bodyPost_end (v := .tuple #[]) (by simp [results, Tryz.results38, go_sem]) rfl ⟨rfl, below_upd_by HB7.out hU8, .slice va ms.length vc, hW8, rfl, own_base (HO7.out.kept (row := some p5) hU8.by_ ?_) h56⟩
    cases hv : Value.ownBlock (.slice va ms.length vc) with
    | none => exact .inl rfl
    | some k => exact .inr (by intro e; injection e with e; have := (hlt k hv).1; omega)

/-- What SortedWalk leaves. -/
def Walked2 (txt set : Bool) (kk nn : Int) (ps : List Pr) (ms : List Mv) (w : World) (e : Ending) (w' : World) : Prop :=
  ∃ v', e = .returned (.tuple #[v', .bool true]) ∧ w'.ownsRow w.heap.size 61 5 v' ms.length (was (walkAns txt set kk nn ps ms)) ∧ Below w.heap.size w w'

set_option maxHeartbeats 4000000 in
set_option maxRecDepth 100000 in
theorem sortedWalk_any (txt set : Bool) (kk nn : Int) (ps : List Pr) (ms : List Mv) (psl msl : Value) (w : World) (hO : OrdOK kk nn) (hps : ∀ p ∈ ps, I64 p.key) (hms : ∀ m ∈ ms, MvOK m) (hlen : ps.length ≤ 800000) (hlen2 : ms.length ≤ 800000)
    (hR : RowV w psl ps.length (prs ps)) (hRm : RowV w msl ms.length (mvs ms)) : Calls Tryz.prog 17 #[.bool txt, .bool set, ordV kk nn, psl, msl] w (Walked2 txt set kk nn ps ms w) := by
  have hmf : ∀ (fn : Fn) (first cap : Array Value) (w : World), (Instr.makeFunc fn first cap).run Tryz.prog w = .ok (.func fn first cap) w := fun _ _ _ _ => rfl
  have o3 := hR.one
  have o4 := hRm.one
  have hR0 := hR
  have hRm0 := hRm
  obtain ⟨pa, pc, rfl, _, _⟩ := hR
  obtain ⟨ma, mc, rfl, _, _⟩ := hRm
  go_enter Tryz.func17, Tryz.ntmps17
  go_upto_region 1 with (fail)
  have hsz : ((((((w.alloc (.cells #[.bool txt] 4)).alloc (.cells #[.bool set] 4)).alloc (.cells #[.int .u8 kk, .int .i64 nn] 31)).alloc (.cells #[.slice pa ps.length pc] 55)).alloc (.cells #[.slice ma ms.length mc] 43)).alloc (.cells #[.slice none 0 0] 52)).heap.size = w.heap.size + 1 + 1 + 1 + 1 + 1 + 1 := by simp only [alloc_sz]
  have hB : Below w.heap.size w ((((((w.alloc (.cells #[.bool txt] 4)).alloc (.cells #[.bool set] 4)).alloc (.cells #[.int .u8 kk, .int .i64 nn] 31)).alloc (.cells #[.slice pa ps.length pc] 55)).alloc (.cells #[.slice ma ms.length mc] 43)).alloc (.cells #[.slice none 0 0] 52)) :=
    (gNew3 w _ _ _).trans ((gNew3 _ _ _ _).mono (by simp only [alloc_sz]; omega))
  have hC : Caps ((((((w.alloc (.cells #[.bool txt] 4)).alloc (.cells #[.bool set] 4)).alloc (.cells #[.int .u8 kk, .int .i64 nn] 31)).alloc (.cells #[.slice pa ps.length pc] 55)).alloc (.cells #[.slice ma ms.length mc] 43)).alloc (.cells #[.slice none 0 0] 52)) w.heap.size (w.heap.size + 1 + 1) (w.heap.size + 1) (w.heap.size + 1 + 1 + 1) (w.heap.size + 1 + 1 + 1 + 1) (w.heap.size + 1 + 1 + 1 + 1 + 1) txt set kk nn (.slice pa ps.length pc) (.slice ma ms.length mc) :=
    ⟨by go_simp, by go_simp, by go_simp, by go_simp, by go_simp, by go_simp, by omega, by omega, by omega, by omega, by omega⟩
  have hW : Whole ((((((w.alloc (.cells #[.bool txt] 4)).alloc (.cells #[.bool set] 4)).alloc (.cells #[.int .u8 kk, .int .i64 nn] 31)).alloc (.cells #[.slice pa ps.length pc] 55)).alloc (.cells #[.slice ma ms.length mc] 43)).alloc (.cells #[.slice none 0 0] 52)) (w.heap.size + 1 + 1 + 1 + 1 + 1) [.slice none 0 0] 52 := by
    have h := box_news (((((w.alloc (.cells #[.bool txt] 4)).alloc (.cells #[.bool set] 4)).alloc (.cells #[.int .u8 kk, .int .i64 nn] 31)).alloc (.cells #[.slice pa ps.length pc] 55)).alloc (.cells #[.slice ma ms.length mc] 43)) #[.slice none 0 0] 52
    simp only [alloc_sz] at h
    exact h
  generalize (((((w.alloc (.cells #[.bool txt] 4)).alloc (.cells #[.bool set] 4)).alloc (.cells #[.int .u8 kk, .int .i64 nn] 31)).alloc (.cells #[.slice pa ps.length pc] 55)).alloc (.cells #[.slice ma ms.length mc] 43)).alloc (.cells #[.slice none 0 0] 52) = wb at *
  have HT : Hid (Calls Tryz.prog 23 #[.func (.func 38) #[] #[.pointer (some ⟨w.heap.size, 0, none⟩), .pointer (some ⟨w.heap.size + 1 + 1, 0, none⟩), .pointer (some ⟨w.heap.size + 1, 0, none⟩), .pointer (some ⟨w.heap.size + 1 + 1 + 1, 0, none⟩), .pointer (some ⟨w.heap.size + 1 + 1 + 1 + 1, 0, none⟩), .pointer (some ⟨w.heap.size + 1 + 1 + 1 + 1 + 1, 0, none⟩)]] wb
      fun e w5 => e = .returned (.bool false) ∧ ∃ va vc, Whole w5 (w.heap.size + 1 + 1 + 1 + 1 + 1) [.slice va ms.length vc] 52 ∧ w5.ownsRow w.heap.size 61 5 (.slice va ms.length vc) ms.length (was (walkAns txt set kk nn ps ms)) ∧ Below w.heap.size w w5 ∧ ∀ k, (Value.slice va ms.length vc).ownBlock = some k → k ≠ w.heap.size + 1 + 1 + 1 + 1 + 1) := by
    have hn := gNew wb (.cells #[.bool false] 4)
    have hbn := gTrans hB hn
    have hcl := closW txt set kk nn ps ms (.slice pa ps.length pc) (.slice ma ms.length mc) (wb.alloc (.cells #[.bool false] 4)) hO hps hms hlen hlen2 (hR0.grow hbn) (hRm0.grow hbn) _ _ _ _ _ _ (hC.grow hn) (hW.grow hn)
    have hbox := box_news wb #[.bool false] 4
    refine (thrown_any 38 _ wb (fun args W => by kernel_rfl) (fun w1 => (wb.alloc (.cells #[.bool false] 4)).grownBy w1 (some (w.heap.size + 1 + 1 + 1 + 1 + 1)) ∧ ∃ v, Whole w1 (w.heap.size + 1 + 1 + 1 + 1 + 1) [v] 52 ∧ v.oneCell' = true ∧ w1.ownsRow (wb.alloc (.cells #[.bool false] 4)).heap.size 61 5 v ms.length (was (walkAns txt set kk nn ps ms))) (hcl.mono ?_)).mono ?_
    · rintro e w1 ⟨rfl, hg, hv⟩
      have hb1 := WI0.whole_by hbox hg (by omega)
      exact ⟨rfl, hb1.cell (j := 0) rfl, hb1.frozen 0, hg, hv⟩
    · rintro e w5 ⟨rfl, w1, ⟨hg, v, hW1, hv1, ho1⟩, rfl⟩
      obtain ⟨va, vc, rfl, _, _⟩ := own_rowV ho1
      have hb1 := WI0.whole_by hbox hg (by omega)
      obtain ⟨hb2, hu2⟩ := whole_set hb1 (.bool false) (i := 0) (by simp)
      obtain ⟨hb3, hu3⟩ := whole_set hb2 (.bool false) (i := 0) (by simp)
      have hu := hu2.trans hu3
      have hlt := ho1.lt
      rw [alloc_sz] at hlt
      refine ⟨rfl, va, vc, hW1.upd hu (by omega), own_base (ho1.kept (row := some wb.heap.size) hu.by_ ?_) hbn.size, ?_, fun k hk => by have := (hlt k hk).1; omega⟩
      · cases hv : Value.ownBlock (.slice va ms.length vc) with
        | none => exact .inl rfl
        | some k => exact .inr (by intro e; injection e with e; have := (hlt k hv).1; omega)
      · exact below_upd (hbn.grown hg hbn.size (fun k hk => by injection hk with hk; omega)) hu (by have := hB.size; omega)
  clear hO hps hms hR0 hRm0 hC hW hB o3 o4
  go_upto_region 2 with (go_at_call 23; refine HT.out.mono ?_; rintro e w5 ⟨rfl, va, vc, hW5, ho5, hB5, hne⟩)
  have x0 := hW5.cell (j := 0) rfl
  have f0 := hW5.frozen 0
  have HW5 := Lib.hid hW5
  have HO5 := Lib.hid ho5
  have HB5 := Lib.hid hB5
  have HNE := Lib.hid hne
  clear hW5 ho5 hB5 hne
  go_wp2
  obtain ⟨hW6, hU6⟩ := whole_set HW5.out (.slice va ms.length vc) (i := 0) (by simp)
  have q6 := hW6.cell (j := 0) rfl
  refine bodyPost_ret (v := .tuple #[.slice va ms.length vc, .bool true]) (by simp [results, Tryz.results17, go_sem, q6]) rfl ⟨_, rfl, HO5.out.kept (row := some (w.heap.size + 1 + 1 + 1 + 1 + 1)) hU6.by_ ?_, below_upd HB5.out hU6 (by omega)⟩
  cases hv : Value.ownBlock (.slice va ms.length vc) with
  | none => exact .inl rfl
  | some k => exact .inr (by intro e; injection e with e; exact HNE.out k hv e)
end Go.Proofs.YtfejflhgaphilaaGreatDoor

/-
  THE WALKS of the laws' steps that put pairs, and of the comparison of pairs.
  THE WALKS of the thin package's Sorted and of its closure, keys of numbers, scripts that put one key or list the pairs.
  THE WALKS of the laws' sortedItems and sortedAwake.
-/
import Derived.Test.YtfejflhgaphilaaGreatDoorVQ
import Derived.Test.YtfejflhgaphilaaGreatDoorVO
import Derived.Test.YtfejflhgaphilaaGreatDoorVX
import Derived.Test.YtfejflhgaphilaaGreatDoorVK
set_option linter.all false
set_option linter.unusedVariables false
set_option linter.unusedSimpArgs false
set_option linter.unusedSectionVars false
namespace Go.Proofs.YtfejflhgaphilaaGreatDoor
open Go.RowKit Go.Sort Lst

theorem infoS : (Tryz.prog.info? 90).map (fun i => (i.zero, i.size, i.bytes)) = some (some (.agg #[.int .u8 0, .int .i64 0, .int .i64 0, .string ⟨#[]⟩, .int .i64 0, .int .i64 0, .int .i64 0]), 7, 64) := by kernel_rfl

set_option maxHeartbeats 4000000 in
set_option maxRecDepth 100000 in
/-- Rows of pairs that are alike are found so. -/
theorem samePairs_any (ps : List Pr) (sa sb : Value) (w : World) (hlen : ps.length ≤ 800000) (hRa : RowV w sa ps.length (prs ps)) (hRb : RowV w sb ps.length (prs ps)) :
    Calls Tryz.prog 22 #[sa, sb] w fun e w' => e = .returned (.bool true) ∧ Below w.heap.size w w' := by
  obtain ⟨aa, ca, rfl, hca, hra⟩ := hRa
  obtain ⟨ab, cb, rfl, hcb, hrb⟩ := hRb
  have HRA := Lib.hid hra
  have HRB := Lib.hid hrb
  clear hra hrb
  go_enter Tryz.func22, Tryz.ntmps22
  go_upto_region 4 with (fail)
  go_loopg [13] ps.length (fun g s13 wr => ∃ (i : Nat), i + g = ps.length ∧ s13 = .int .i64 i ∧ Below w.heap.size w wr)
  case atStart => exact ⟨0, by omega, rfl, Below.refl _ _⟩
  case round =>
    obtain ⟨i, hig, rfl, hB⟩ := hrel
    have hlt' : i < ps.length ∨ i = ps.length := by omega
    rcases hlt' with hlt | rfl
    · obtain ⟨b, o, rfl, hR⟩ := HRA.out (by omega)
      obtain ⟨b2, o2, rfl, hR2⟩ := HRB.out (by omega)
      obtain ⟨p, hp⟩ : ∃ p, ps[i]? = some p := ⟨_, List.getElem?_eq_getElem hlt⟩
      obtain ⟨c0, c1, c2⟩ := hR.pr hp
      obtain ⟨d0, d1, d2⟩ := hR2.pr hp
      have s0 := gCell hB c0
      have s1 := gCell hB c1
      have s2 := gCell hB c2
      have u0 := gCell hB d0
      have u1 := gCell hB d1
      have u2 := gCell hB d2
      have hii : (i : Int) < (ps.length : Int) := by omega
      have hll : i < ps.length := hlt
      have HIG := Lib.hid hig
      have HBR := Lib.hid hB
      clear hB c0 c1 c2 d0 d1 d2 hR hR2 hig hp
      go_upto_region 6 with (fail)
      refine wp_region_still_lit (by kernel_rfl) (by kernel_rfl) ?_
      change wpStill _ _ wr.drew _ _ _
      repeat still_step
      refine wpStill_nil ?_
      change Exit.then _ _ _ _ wr.drew
      go_wp2
      go_roundg (gk - 1)
      case measure => have := HIG.out; omega
      case rel => exact ⟨i + 1, by have := HIG.out; omega, by simp, below_drew HBR.out⟩
    · have HBR := Lib.hid hB
      clear hB
      go_wp2
      go_ret
      exact ⟨rfl, HBR.out⟩

def putSts (ps : List Pr) : List St := ps.mapIdx fun i p => ⟨0, i, p.key, p.text, p.val, 0, 0⟩
def shiftSt (n : Nat) (s : St) : St := ⟨s.op, s.at_ + n, s.key, s.text, s.val, s.count, s.by_⟩

theorem len_putSts (ps : List Pr) : (putSts ps).length = ps.length := by unfold putSts; simp
theorem get_putSts {ps : List Pr} {i : Nat} {p : Pr} (hp : ps[i]? = some p) : (putSts ps)[i]? = some ⟨0, i, p.key, p.text, p.val, 0, 0⟩ := by
  unfold putSts
  rw [List.getElem?_mapIdx, hp]
  rfl

theorem take_next {α : Type} {l : List α} {i : Nat} {x : α} (h : l[i]? = some x) : l.take (i + 1) = l.take i ++ [x] := by
  obtain ⟨hl, he⟩ := List.getElem?_eq_some_iff.1 h
  rw [List.take_succ_eq_append_getElem hl, he]

set_option maxHeartbeats 4000000 in
set_option maxRecDepth 100000 in
theorem sortedPut_any (ps : List Pr) (more : List St) (sa sb : Value) (w : World) (hlen : ps.length ≤ 100000) (hlen2 : more.length ≤ 100000) (hat : ∀ s ∈ more, 0 ≤ s.at_ ∧ s.at_ ≤ 1000) (hRa : RowV w sa ps.length (prs ps)) (hRb : RowV w sb more.length (sts more)) :
    Calls Tryz.prog 42 #[sa, sb] w fun e w' => ∃ v', e = .returned v' ∧ w'.ownsRow w.heap.size 90 7 v' (ps.length + more.length) (sts (putSts ps ++ more.map (shiftSt ps.length))) ∧ Below w.heap.size w w' := by
  obtain ⟨aa, ca, rfl, hca, hra⟩ := hRa
  obtain ⟨ab, cb, rfl, hcb, hrb⟩ := hRb
  have HRA := Lib.hid hra
  have HRB := Lib.hid hrb
  have HAT := Lib.hid hat
  clear hra hrb hat
  obtain ⟨i0, hi, hz0, hz1, hz2⟩ := info_parts infoS
  go_enter Tryz.func42, Tryz.ntmps42
  go_upto_region 3 with (fail)
  go_loopg [5, 12] ps.length (fun g s5 s12 wr => ∃ (i : Nat), i + g = ps.length ∧ s12 = .int .i64 i ∧ wr.ownsRow w.heap.size 90 7 s5 i (sts ((putSts ps).take i)) ∧ Below w.heap.size w wr)
  case atStart => exact ⟨0, by omega, rfl, World.ownsRow_nil _ _ _ _, Below.refl _ _⟩
  case round =>
    obtain ⟨i, hig, rfl, hown, hB⟩ := hrel
    have hlt' : i < ps.length ∨ i = ps.length := by omega
    rcases hlt' with hlt | rfl
    · obtain ⟨b, o, rfl, hR⟩ := HRA.out (by omega)
      obtain ⟨p, hp⟩ : ∃ p, ps[i]? = some p := ⟨_, List.getElem?_eq_getElem hlt⟩
      obtain ⟨c0, c1, c2⟩ := hR.pr hp
      have s0 := gCell hB c0
      have s1 := gCell hB c1
      have s2 := gCell hB c2
      have hii : (i : Int) < (ps.length : Int) := by omega
      have HIG := Lib.hid hig
      have HP := Lib.hid (get_putSts hp)
      have hg2 := gNew2 wr (.cells #[.int .i64 p.key, .string p.text, .int .i64 p.val] 49) (.cells #[.int .u8 0, .int .i64 i, .int .i64 p.key, .string p.text, .int .i64 p.val, .int .i64 0, .int .i64 0] 90)
      have HB2 := Lib.hid (gTrans hB hg2)
      have HO2 := Lib.hid (hown.kept (below_by (g := none) hg2) (by cases Value.ownBlock _ <;> simp))
      have HN := Lib.hid (news_of (box2 wr (.cells #[.int .i64 p.key, .string p.text, .int .i64 p.val] 49) #[.int .u8 0, .int .i64 i, .int .i64 p.key, .string p.text, .int .i64 p.val, .int .i64 0, .int .i64 0] 90))
      have hbase : w.heap.size ≤ ((wr.alloc (.cells #[.int .i64 p.key, .string p.text, .int .i64 p.val] 49)).alloc (.cells #[.int .u8 0, .int .i64 i, .int .i64 p.key, .string p.text, .int .i64 p.val, .int .i64 0, .int .i64 0] 90)).heap.size := Nat.le_trans hB.size hg2.size
      have HBASE := Lib.hid hbase
      have HMX : Hid (i + 1 ≤ maxLen) := by show _ ≤ _; simp only [maxLen]; omega
      have HBYT : Hid ((i + 1) * 64 ≤ 140737488355328) := by show _ ≤ _; omega
      clear hB c0 c1 c2 hR hig hp hown hg2 hbase
      go_wp2_with ((with_reducible refine at_slot 27 ?_); refine wpList_append_moved _ rfl _ _ 32 rfl w.heap.size 90 i0 _ 7 64 Tryz.underlying32 hi hz0 hz1 hz2 rfl (by omega) _ i (sts ((putSts ps).take i)) (by rfl) HO2.out ⟨wr.heap.size + 1, 0, none⟩ 1 1 (St.cells ⟨0, i, p.key, p.text, p.val, 0, 0⟩) (by rfl) rfl HN.out (oneSt _) HMX.out HBYT.out HBASE.out ?_; intro v3 w3 hown3 hg3 hm3)
      have HLT := Lib.hid HO2.out.lt
      go_roundg (gk - 1)
      case measure => have := HIG.out; omega
      case rel =>
        refine ⟨i + 1, by have := HIG.out; omega, by simp, ?_, HB2.out.grown hg3 HBASE.out (fun k hk => (HLT.out k hk).1)⟩
        rw [take_next HP.out]
        simp only [sts, List.flatMap_append, List.flatMap_cons, List.flatMap_nil, List.append_nil]
        exact hown3
    · have hown' : wr.ownsRow w.heap.size 90 7 u5 (ps.length + 0) (sts (putSts ps ++ (more.map (shiftSt ps.length)).take 0)) := by
        have e : (putSts ps).take ps.length = putSts ps := by rw [← len_putSts ps, List.take_length]
        rw [e] at hown
        simpa using hown
      have HO := Lib.hid hown'
      have HB := Lib.hid hB
      clear hown hown' hB hig
      go_upto_region 8 with (fail)
      go_loopg [5, 31] more.length (fun g s5 s31 wq => ∃ (i : Nat), i + g = more.length ∧ s31 = .int .i64 i ∧ wq.ownsRow w.heap.size 90 7 s5 (ps.length + i) (sts (putSts ps ++ (more.map (shiftSt ps.length)).take i)) ∧ Below w.heap.size w wq)
      case atStart => exact ⟨0, by omega, rfl, HO.out, HB.out⟩
      case round =>
        obtain ⟨i, hig, rfl, hown, hB⟩ := hrel
        have hlt' : i < more.length ∨ i = more.length := by omega
        rcases hlt' with hlt | rfl
        · obtain ⟨b, o, rfl, hR⟩ := HRB.out (by omega)
          obtain ⟨⟨op, sa, sk, st, sv, sc, sb⟩, hp⟩ : ∃ s, more[i]? = some s := ⟨_, List.getElem?_eq_getElem hlt⟩
          have hc := hR.st hp
          dsimp only at hc
          obtain ⟨c0, c1, c2, c3, c4, c5, c6⟩ := hc
          have s0 := gCell hB c0
          have s1 := gCell hB c1
          have s2 := gCell hB c2
          have s3 := gCell hB c3
          have s4 := gCell hB c4
          have s5 := gCell hB c5
          have s6 := gCell hB c6
          have hii : (i : Int) < (more.length : Int) := by omega
          have HIG := Lib.hid hig
          obtain ⟨ha0, ha1⟩ := HAT.out _ (List.mem_of_getElem? hp)
          dsimp only at ha0 ha1
          have HP : Hid ((more.map (shiftSt ps.length))[i]? = some ⟨op, sa + ps.length, sk, st, sv, sc, sb⟩) := by show _ = _; rw [List.getElem?_map, hp]; rfl
          have hw1 : IntKind.i64.wrap (sa + (ps.length : Int)) = sa + (ps.length : Int) := IntWalk.i64_in _ (by omega)
          have hg2 := gNew2 wr (.cells #[.int .u8 op, .int .i64 (sa + ps.length), .int .i64 sk, .string st, .int .i64 sv, .int .i64 sc, .int .i64 sb] 90) (.cells #[.int .u8 op, .int .i64 (sa + ps.length), .int .i64 sk, .string st, .int .i64 sv, .int .i64 sc, .int .i64 sb] 90)
          have HB2 := Lib.hid (gTrans hB hg2)
          have HO2 := Lib.hid (hown.kept (below_by (g := none) hg2) (by cases Value.ownBlock _ <;> simp))
          have HN := Lib.hid (news_of (box2 wr (.cells #[.int .u8 op, .int .i64 (sa + ps.length), .int .i64 sk, .string st, .int .i64 sv, .int .i64 sc, .int .i64 sb] 90) #[.int .u8 op, .int .i64 (sa + ps.length), .int .i64 sk, .string st, .int .i64 sv, .int .i64 sc, .int .i64 sb] 90))
          have HBASE := Lib.hid (Nat.le_trans hB.size hg2.size)
          have HMX : Hid (ps.length + i + 1 ≤ maxLen) := by show _ ≤ _; simp only [maxLen]; omega
          have HBYT : Hid ((ps.length + i + 1) * 64 ≤ 140737488355328) := by show _ ≤ _; omega
          clear hB c0 c1 c2 c3 c4 c5 c6 hR hig hp hown hg2
          go_wp2_with ((with_reducible refine at_slot 44 ?_); refine wpList_append_moved _ rfl _ _ 32 rfl w.heap.size 90 i0 _ 7 64 Tryz.underlying32 hi hz0 hz1 hz2 rfl (by omega) _ (ps.length + i) (sts (putSts ps ++ (more.map (shiftSt ps.length)).take i)) (by rfl) HO2.out ⟨wr.heap.size + 1, 0, none⟩ 1 1 (St.cells ⟨op, sa + ps.length, sk, st, sv, sc, sb⟩) (by rfl) rfl HN.out (oneSt _) HMX.out HBYT.out HBASE.out ?_; intro v3 w3 hown3 hg3 hm3)
          have HLT := Lib.hid HO2.out.lt
          go_roundg (gk - 1)
          case measure => have := HIG.out; omega
          case rel =>
            refine ⟨i + 1, by have := HIG.out; omega, by simp, ?_, HB2.out.grown hg3 HBASE.out (fun k hk => (HLT.out k hk).1)⟩
            rw [take_next HP.out, ← List.append_assoc]
            simp only [sts, List.flatMap_append, List.flatMap_cons, List.flatMap_nil, List.append_nil] at hown3 ⊢
            exact hown3
        · have hown' : wr.ownsRow w.heap.size 90 7 u5 (ps.length + more.length) (sts (putSts ps ++ more.map (shiftSt ps.length))) := by
            rw [List.take_of_length_le (by simp)] at hown
            exact hown
          have HO' := Lib.hid hown'
          have HB' := Lib.hid hB
          clear hown hown' hB hig
          go_wp2
          go_ret
          exact ⟨_, rfl, HO'.out, HB'.out⟩
end Go.Proofs.YtfejflhgaphilaaGreatDoor

namespace Go.Proofs.YtfejflhgaphilaaGreatDoor
open Go.RowKit Go.Sort Lst

theorem Answers.slice {base : Nat} {w : World} {v : Value} {al : List An} (h : Answers base w v al) : ∃ a c, v = .slice a al.length c := by
  obtain ⟨outs, rfl, ⟨a, c, rfl, _⟩, _⟩ := h
  exact ⟨a, c, by rw [List.length_map]⟩
theorem Answers.upd {base g : Nat} {w w' : World} {v : Value} {al : List An} (h : Answers base w v al) (hU : Upd g w w') (hg : g < base) : Answers base w' v al := h.keep fun b hb => hU.heap (by omega)
theorem Answers.base {base base' : Nat} {w : World} {v : Value} {al : List An} (h : Answers base w v al) (hb : base' ≤ base) : Answers base' w v al := by
  obtain ⟨outs, h1, h2, h3⟩ := h
  exact ⟨outs, h1, h2.keep (fun b h => Nat.le_trans hb h) (fun _ _ => rfl), h3.keep (fun b h => Nat.le_trans hb h) (fun _ _ => rfl)⟩

theorem RowV.one' {w : World} {v : Value} {n : Nat} {cs : List Value} (h : RowV w v n cs) : v.oneCell' = true := by
  obtain ⟨a, cap, rfl, _⟩ := h
  rfl

set_option maxHeartbeats 4000000 in
set_option maxRecDepth 100000 in
theorem closS (kk nn : Int) (ss : List St) (ssl : Value) (w : World) (hO : OrdOK kk nn) (hss : ∀ s ∈ ss, StOK s ∧ (s.op = 0 ∨ s.op = 3)) (hlen : ss.length ≤ 1000) (hR : RowV w ssl ss.length (sts ss))
    (p0 p1 p2 p3 : Nat) (c0 : w.cell? ⟨p0, 0, none⟩ = some (.bool false)) (c1 : w.cell? ⟨p1, 0, none⟩ = some (.int .u8 kk)) (c1' : w.cell? ⟨p1, 1, none⟩ = some (.int .i64 nn)) (c2 : w.cell? ⟨p2, 0, none⟩ = some ssl) (n1 : p1 ≠ p3) (n2 : p2 ≠ p3) (hW : Whole w p3 [.slice none 0 0] 28) :
    Calls Tryz.prog 98 #[.pointer (some ⟨p0, 0, none⟩), .pointer (some ⟨p1, 0, none⟩), .pointer (some ⟨p2, 0, none⟩), .pointer (some ⟨p3, 0, none⟩)] w fun e w' => e = .returned (.tuple #[]) ∧
      w.grownBy w' (some p3) ∧ ∃ v, Whole w' p3 [v] 28 ∧ Answers w.heap.size w' v (runA false false kk nn [[]] ss) := by
  have HW := Lib.hid hW
  have HC := Lib.hid (And.intro c1 (And.intro c1' c2))
  have HN := Lib.hid (And.intro n1 n2)
  have o3 := hR.one'
  have HP3 := Lib.hid hW.lt
  have HCALL : Hid (∀ W, Below w.heap.size w W → Calls Tryz.prog 100 #[keysI, cvI kk nn, ssl] W fun e w' => ∃ v', e = .returned v' ∧ Answers W.heap.size w' v' (runA false false kk nn [[]] ss) ∧ Below W.heap.size W w') := fun W hB => sortedRun_any kk nn ss ssl W hO hss hlen (hR.grow hB)
  generalize runA false false kk nn [[]] ss = al at *
  clear hO hss hR hW n1 n2
  go_enter Tryz.func98, Tryz.ntmps98
  go_upto_region 2 with (fail)
  go_region_held3 (fun W : World => W.cell? ⟨p1, 0, none⟩ = some (.int .u8 kk) ∧ W.cell? ⟨p1, 1, none⟩ = some (.int .i64 nn) ∧ W.cell? ⟨p2, 0, none⟩ = some ssl)
    (first | exact HC.out | exact K5.out | exact K6.out | exact K7.out | exact K8.out)
    ((first | (go_at_call 29; refine (keysOfI _).mono ?_; rintro e w5 ⟨rfl, hB5⟩; have hb5 := gTrans (below_drew (gRefl w)) hB5; have K5 := Lib.hid (And.intro (gCell hb5 HC.out.1) (And.intro (gCell hb5 HC.out.2.1) (gCell hb5 HC.out.2.2))); have HB5 := Lib.hid hb5; clear hB5 hb5) | (go_at_call 30; refine (cmprOfI kk nn _).mono ?_; rintro e w6 ⟨rfl, hB6⟩; have hb6 := gTrans HB5.out hB6; have K6 := Lib.hid (And.intro (gCell hb6 HC.out.1) (And.intro (gCell hb6 HC.out.2.1) (gCell hb6 HC.out.2.2))); have HB6 := Lib.hid hb6; clear hB6 hb6) | (go_at_call 100; refine (HCALL.out _ HB6.out).mono ?_; rintro e w7 ⟨v, rfl, ha7, hB7⟩; have hb7 := gTrans HB6.out hB7; have hW7 := HW.out.grow hb7; have x0 := hW7.cell (j := 0) rfl; have f0 := hW7.frozen 0; obtain ⟨va, vc, rfl⟩ := ha7.slice; have hu := (whole_set hW7 (.slice va al.length vc) (i := 0) (by simp)).2; have K7 := Lib.hid (And.intro (gCell hb7 HC.out.1) (And.intro (gCell hb7 HC.out.2.1) (gCell hb7 HC.out.2.2))); have K8 := Lib.hid (And.intro (hu.cell (p := ⟨p1, 0, none⟩) HN.out.1 K7.out.1) (And.intro (hu.cell (p := ⟨p1, 1, none⟩) HN.out.1 K7.out.2.1) (hu.cell (p := ⟨p2, 0, none⟩) HN.out.2 K7.out.2.2))); have HB7 := Lib.hid hb7; have HA7 := Lib.hid ha7; have HW7 := Lib.hid hW7; clear hb7 hB7 hW7 ha7 hu)))
  obtain ⟨hW8, hU8⟩ := whole_set HW7.out (.slice va al.length vc) (i := 0) (by simp)
  have h56 := HB6.out.size
  have hp3 := HP3.out
  exact bodyPost_end (v := .tuple #[]) (by simp [results, Tryz.results98, go_sem]) rfl ⟨rfl, below_upd_by HB7.out hU8, .slice va al.length vc, hW8, (HA7.out.upd hU8 (by omega)).base h56⟩

set_option maxHeartbeats 4000000 in
set_option maxRecDepth 100000 in
theorem sorted_any (kk nn : Int) (ss : List St) (ssl : Value) (w : World) (hO : OrdOK kk nn) (hss : ∀ s ∈ ss, StOK s ∧ (s.op = 0 ∨ s.op = 3)) (hlen : ss.length ≤ 1000) (hR : RowV w ssl ss.length (sts ss)) :
    Calls Tryz.prog 41 #[.bool false, ordV kk nn, ssl] w fun e w' => ∃ v', e = .returned (.tuple #[v', .bool true]) ∧ Answers w.heap.size w' v' (runA false false kk nn [[]] ss) ∧ Below w.heap.size w w' := by
  have hmf : ∀ (fn : Fn) (first cap : Array Value) (w : World), (Instr.makeFunc fn first cap).run Tryz.prog w = .ok (.func fn first cap) w := fun _ _ _ _ => rfl
  have o3 := hR.one'
  have hR0 := hR
  obtain ⟨pa, pc, rfl, _, _⟩ := hR
  go_enter Tryz.func41, Tryz.ntmps41
  go_upto_region 1 with (fail)
  have hsz : ((((w.alloc (.cells #[.bool false] 4)).alloc (.cells #[.int .u8 kk, .int .i64 nn] 31)).alloc (.cells #[.slice pa ss.length pc] 32)).alloc (.cells #[.slice none 0 0] 28)).heap.size = w.heap.size + 1 + 1 + 1 + 1 := by simp only [alloc_sz]
  have hB : Below w.heap.size w ((((w.alloc (.cells #[.bool false] 4)).alloc (.cells #[.int .u8 kk, .int .i64 nn] 31)).alloc (.cells #[.slice pa ss.length pc] 32)).alloc (.cells #[.slice none 0 0] 28)) :=
    (gNew3 w _ _ _).trans ((gNew _ _).mono (by simp only [alloc_sz]; omega))
  have c0 : ((((w.alloc (.cells #[.bool false] 4)).alloc (.cells #[.int .u8 kk, .int .i64 nn] 31)).alloc (.cells #[.slice pa ss.length pc] 32)).alloc (.cells #[.slice none 0 0] 28)).cell? ⟨w.heap.size, 0, none⟩ = some (.bool false) := by go_simp
  have c1 : ((((w.alloc (.cells #[.bool false] 4)).alloc (.cells #[.int .u8 kk, .int .i64 nn] 31)).alloc (.cells #[.slice pa ss.length pc] 32)).alloc (.cells #[.slice none 0 0] 28)).cell? ⟨w.heap.size + 1, 0, none⟩ = some (.int .u8 kk) := by go_simp
  have c1' : ((((w.alloc (.cells #[.bool false] 4)).alloc (.cells #[.int .u8 kk, .int .i64 nn] 31)).alloc (.cells #[.slice pa ss.length pc] 32)).alloc (.cells #[.slice none 0 0] 28)).cell? ⟨w.heap.size + 1, 1, none⟩ = some (.int .i64 nn) := by go_simp
  have c2 : ((((w.alloc (.cells #[.bool false] 4)).alloc (.cells #[.int .u8 kk, .int .i64 nn] 31)).alloc (.cells #[.slice pa ss.length pc] 32)).alloc (.cells #[.slice none 0 0] 28)).cell? ⟨w.heap.size + 1 + 1, 0, none⟩ = some (.slice pa ss.length pc) := by go_simp
  have hW : Whole ((((w.alloc (.cells #[.bool false] 4)).alloc (.cells #[.int .u8 kk, .int .i64 nn] 31)).alloc (.cells #[.slice pa ss.length pc] 32)).alloc (.cells #[.slice none 0 0] 28)) (w.heap.size + 1 + 1 + 1) [.slice none 0 0] 28 := by
    have h := box_news (((w.alloc (.cells #[.bool false] 4)).alloc (.cells #[.int .u8 kk, .int .i64 nn] 31)).alloc (.cells #[.slice pa ss.length pc] 32)) #[.slice none 0 0] 28
    simp only [alloc_sz] at h
    exact h
  generalize (((w.alloc (.cells #[.bool false] 4)).alloc (.cells #[.int .u8 kk, .int .i64 nn] 31)).alloc (.cells #[.slice pa ss.length pc] 32)).alloc (.cells #[.slice none 0 0] 28) = wb at *
  have HT : Hid (Calls Tryz.prog 23 #[.func (.func 98) #[] #[.pointer (some ⟨w.heap.size, 0, none⟩), .pointer (some ⟨w.heap.size + 1, 0, none⟩), .pointer (some ⟨w.heap.size + 1 + 1, 0, none⟩), .pointer (some ⟨w.heap.size + 1 + 1 + 1, 0, none⟩)]] wb
      fun e w5 => e = .returned (.bool false) ∧ ∃ va n vc, Whole w5 (w.heap.size + 1 + 1 + 1) [.slice va n vc] 28 ∧ Answers (wb.heap.size + 1) w5 (.slice va n vc) (runA false false kk nn [[]] ss) ∧ Below w.heap.size w w5) := by
    have hn := gNew wb (.cells #[.bool false] 4)
    have hbn := gTrans hB hn
    have hcl := closS kk nn ss (.slice pa ss.length pc) (wb.alloc (.cells #[.bool false] 4)) hO hss hlen (hR0.grow hbn) _ _ _ _ (gCell hn c0) (gCell hn c1) (gCell hn c1') (gCell hn c2) (by omega) (by omega) (hW.grow hn)
    have hbox := box_news wb #[.bool false] 4
    refine (thrown_any 98 _ wb (fun args W => by kernel_rfl) (fun w1 => (wb.alloc (.cells #[.bool false] 4)).grownBy w1 (some (w.heap.size + 1 + 1 + 1)) ∧ ∃ v, Whole w1 (w.heap.size + 1 + 1 + 1) [v] 28 ∧ Answers (wb.alloc (.cells #[.bool false] 4)).heap.size w1 v (runA false false kk nn [[]] ss)) (hcl.mono ?_)).mono ?_
    · rintro e w1 ⟨rfl, hg, hv⟩
      have hb1 := WI0.whole_by hbox hg (by omega)
      exact ⟨rfl, hb1.cell (j := 0) rfl, hb1.frozen 0, hg, hv⟩
    · rintro e w5 ⟨rfl, w1, ⟨hg, v, hW1, ho1⟩, rfl⟩
      obtain ⟨va, vc, rfl⟩ := ho1.slice
      have hb1 := WI0.whole_by hbox hg (by omega)
      obtain ⟨hb2, hu2⟩ := whole_set hb1 (.bool false) (i := 0) (by simp)
      obtain ⟨hb3, hu3⟩ := whole_set hb2 (.bool false) (i := 0) (by simp)
      have hu := hu2.trans hu3
      rw [alloc_sz] at ho1
      refine ⟨rfl, va, _, vc, hW1.upd hu (by omega), ho1.upd hu (Nat.lt_succ_self _), ?_⟩
      exact below_upd (hbn.grown hg hbn.size (fun k hk => by injection hk with hk; omega)) hu (by have := hB.size; omega)
  clear hO hss hR0 hW hB o3 c0 c1 c1' c2
  go_upto_region 2 with (go_at_call 23; refine HT.out.mono ?_; rintro e w5 ⟨rfl, va, n, vc, hW5, ho5, hB5⟩)
  have x0 := hW5.cell (j := 0) rfl
  have f0 := hW5.frozen 0
  have HW5 := Lib.hid hW5
  have HO5 := Lib.hid ho5
  have HB5 := Lib.hid hB5
  clear hW5 ho5 hB5
  go_wp2
  obtain ⟨hW6, hU6⟩ := whole_set HW5.out (.slice va n vc) (i := 0) (by simp)
  have q6 := hW6.cell (j := 0) rfl
  have han : Answers w.heap.size (w5.setCell ⟨w.heap.size + 1 + 1 + 1, 0, none⟩ (.slice va n vc)) (.slice va n vc) (runA false false kk nn [[]] ss) := (HO5.out.upd hU6 (by omega)).base (by omega)
  exact bodyPost_ret (v := .tuple #[.slice va n vc, .bool true]) (by simp [results, Tryz.results41, go_sem, q6]) rfl ⟨_, rfl, han, below_upd HB5.out hU6 (by omega)⟩
end Go.Proofs.YtfejflhgaphilaaGreatDoor

namespace Go.Proofs.YtfejflhgaphilaaGreatDoor
open Go.RowKit Go.Sort Lst

def listStep : St := ⟨3, 0, 0, ⟨#[]⟩, 0, 0, 0⟩

/-- What is read of an answer's list. -/
theorem Answers.at {base : Nat} {w : World} {v : Value} {al : List An} (h : Answers base w v al) {m : Nat} {an : An} (hm : al[m]? = some an) :
    ∃ b o c x, v = .slice (some ⟨b, o, none⟩) al.length c ∧ w.cell? ⟨b, o + m * 4 + 3, none⟩ = some x ∧ RowV w x an.list.length (prs an.list) := by
  obtain ⟨outs, rfl, ⟨a, c, rfl, hc, hr⟩, hl⟩ := h
  rw [List.getElem?_map] at hm
  cases hx : outs[m]? with
  | none => rw [hx] at hm; cases hm
  | some x =>
    rw [hx] at hm
    simp only [Option.map_some, Option.some.injEq] at hm
    subst hm
    have hlt := (List.getElem?_eq_some_iff.1 hx).1
    obtain ⟨b, o, rfl, _, hrow⟩ := hr (by omega)
    refine ⟨b, o, c, x.2, by rw [List.length_map], ?_, (hl x (List.mem_of_getElem? hx)).v⟩
    have := hrow (m * 4 + 3) _ (flat_get len_anc hx (by decide))
    rwa [← Nat.add_assoc] at this

set_option maxHeartbeats 4000000 in
set_option maxRecDepth 100000 in
theorem sortedItems_any (kk nn : Int) (ps : List Pr) (sl : Value) (w : World) (hO : OrdOK kk nn) (hps : ∀ p ∈ ps, I64 p.key ∧ I64 p.val ∧ p.text.size ≤ 100) (hlen : ps.length ≤ 900) (hR : RowV w sl ps.length (prs ps))
    (an : An) (hl : (runA false false kk nn [[]] (putSts ps ++ [shiftSt ps.length listStep])).length = ps.length + 1) (han : (runA false false kk nn [[]] (putSts ps ++ [shiftSt ps.length listStep]))[ps.length]? = some an) :
    Calls Tryz.prog 21 #[.bool false, ordV kk nn, sl] w fun e w' => ∃ v', e = .returned (.tuple #[v', .bool true]) ∧ RowV w' v' an.list.length (prs an.list) ∧ Below w.heap.size w w' := by
  have hB := gNew w (.cells #[.int .u8 kk, .int .i64 nn] 23)
  have q0 : (w.alloc (.cells #[.int .u8 kk, .int .i64 nn] 23)).cell? ⟨w.heap.size, 0, none⟩ = some (.int .u8 kk) := by go_simp
  have q1 : (w.alloc (.cells #[.int .u8 kk, .int .i64 nn] 23)).cell? ⟨w.heap.size, 1, none⟩ = some (.int .i64 nn) := by go_simp
  have HPUT : Hid (∀ W sb, Below w.heap.size w W → RowV W sb 1 (sts [listStep]) → Calls Tryz.prog 42 #[sl, sb] W fun e w' => ∃ v', e = .returned v' ∧ w'.ownsRow W.heap.size 90 7 v' (ps.length + 1) (sts (putSts ps ++ [shiftSt ps.length listStep])) ∧ Below W.heap.size W w') := fun W sb hW hsb =>
    sortedPut_any ps [listStep] sl sb W (by omega) (by simp) (fun s hs => by simp only [List.mem_cons, List.not_mem_nil, or_false] at hs; subst hs; exact ⟨Int.le_refl _, by decide⟩) (hR.grow hW) hsb
  have HRUN : Hid (∀ W v, RowV W v (ps.length + 1) (sts (putSts ps ++ [shiftSt ps.length listStep])) → Calls Tryz.prog 41 #[.bool false, ordV kk nn, v] W fun e w' => ∃ v', e = .returned (.tuple #[v', .bool true]) ∧ Answers W.heap.size w' v' (runA false false kk nn [[]] (putSts ps ++ [shiftSt ps.length listStep])) ∧ Below W.heap.size W w') := fun W v hv => by
    have h00 : I64 0 := ⟨by decide, by decide⟩
    have hle : (putSts ps ++ [shiftSt ps.length listStep]).length = ps.length + 1 := by simp [len_putSts]
    refine sorted_any kk nn _ v W hO (fun s hs => ?_) (by rw [hle]; omega) (by rw [hle]; exact hv)
    rcases List.mem_append.1 hs with hs | hs
    · obtain ⟨i, hi⟩ := List.mem_iff_getElem?.1 hs
      have hil : i < ps.length := by have := (List.getElem?_eq_some_iff.1 hi).1; rw [len_putSts] at this; exact this
      obtain ⟨p, hp⟩ : ∃ p, ps[i]? = some p := ⟨_, List.getElem?_eq_getElem hil⟩
      rw [get_putSts hp] at hi
      simp only [Option.some.injEq] at hi
      subst hi
      obtain ⟨h1, h2, h3⟩ := hps p (List.mem_of_getElem? hp)
      exact ⟨⟨Int.le_refl _, (by show (0 : Int) ≤ 6; omega), ⟨by show _ ≤ (i : Int); omega, by show (i : Int) ≤ _; omega⟩, h1, h2, h00, Int.le_refl _, (by show (0 : Int) ≤ 3000; omega), h3⟩, .inl rfl⟩
    · simp only [List.mem_cons, List.not_mem_nil, or_false] at hs
      subst hs
      exact ⟨⟨(by show (0 : Int) ≤ 3; omega), (by show (3 : Int) ≤ 6; omega), ⟨by show _ ≤ (0 : Int) + (ps.length : Int); omega, by show (0 : Int) + (ps.length : Int) ≤ _; omega⟩, h00, h00, h00, Int.le_refl _, (by show (0 : Int) ≤ 3000; omega), (by show (0 : Nat) ≤ 100; omega)⟩, .inr rfl⟩
  obtain ⟨pa, pc, rfl, _, _⟩ := id hR
  clear hO hps hR
  generalize runA false false kk nn [[]] (putSts ps ++ [shiftSt ps.length listStep]) = al at *
  have HL := Lib.hid hl
  have HAN := Lib.hid han
  have HB := Lib.hid hB
  clear hl han hB
  go_enter Tryz.func21, Tryz.ntmps21
  go_upto_region 1 with (fail)
  generalize w.alloc (.cells #[.int .u8 kk, .int .i64 nn] 23) = wa at *
  have HSB := Lib.hid (box_news wa listStep.cells.toArray 90)
  have HSR : Hid (RowV (wa.alloc (.cells listStep.cells.toArray 90)) (.slice (some ⟨wa.heap.size, 0, none⟩) 1 1) 1 (sts [listStep])) := ⟨_, 1, rfl, Nat.le_refl _, fun _ => ⟨_, 0, rfl, HSB.out.row⟩⟩
  have HPC := Lib.hid (HPUT.out _ _ (gTrans HB.out (gNew wa _)) HSR.out)
  go_region_held3 (fun W : World => W.cell? ⟨w.heap.size, 0, none⟩ = some (.int .u8 kk) ∧ W.cell? ⟨w.heap.size, 1, none⟩ = some (.int .i64 nn))
    (first | exact ⟨q0, q1⟩ | exact K5.out | exact K6.out | exact ⟨gCell (gNew _ _) q0, gCell (gNew _ _) q1⟩)
    ((first | (go_at_call 42; refine (HPUT.out _ _ (gTrans HB.out (below_drew (gNew wa _))) HSR.out).mono ?_; rintro e w5 ⟨v5, rfl, ho5, hB5⟩; have hb5 := gTrans (below_drew (gNew wa (.cells listStep.cells.toArray 90))) hB5; have K5 := Lib.hid (And.intro (gCell hb5 q0) (gCell hb5 q1)); have HC5 := Lib.hid (HRUN.out w5 v5 (own_rowV ho5)); have HB5 := Lib.hid hb5; clear ho5 hB5 hb5) | (go_at_call 41; refine HC5.out.mono ?_; rintro e w6 ⟨v6, rfl, ha6, hB6⟩; have K6 := Lib.hid (And.intro (gCell hB6 K5.out.1) (gCell hB6 K5.out.2)); have HB6 := Lib.hid (gTrans HB5.out hB6); have HA6 := Lib.hid ha6; clear ha6 hB6)))
  obtain ⟨b6, o6, c6, x6, rfl, hx6, hr6⟩ := HA6.out.at HAN.out
  have hal := HL.out
  rw [hal] at HA6
  have hne : ((ps.length : Int) + 1 != (ps.length : Int) + 1) = false := by simp
  have hw1 : IntKind.i64.wrap ((ps.length : Int) + 1) = (ps.length : Int) + 1 := IntWalk.i64_in _ (by omega)
  have hcast : ((al.length : Nat) : Int) = (ps.length : Int) + 1 := by rw [hal]; rfl
  have hlt : (ps.length : Int) < (al.length : Int) := by rw [hcast]; omega
  have hltn : ps.length < al.length := by rw [hal]; omega
  have HX := Lib.hid hr6
  clear hr6 hal
  go_wp2
  exact bodyPost_ret (v := .tuple #[x6, .bool true]) (by simp [results, Tryz.results21, go_sem]) rfl ⟨x6, rfl, HX.out, gTrans HB.out HB6.out⟩

set_option maxHeartbeats 4000000 in
set_option maxRecDepth 100000 in
theorem awake_any (w : World) : Calls Tryz.prog 7 #[] w fun e w' => e = .returned (.bool true) ∧ Below w.heap.size w w' := by
  have hO : OrdOK 0 0 := ⟨Int.le_refl _, by decide, fun h => absurd h (by decide)⟩
  have hb := gNew w (.cells #[.int .i64 5, .string ⟨#[]⟩, .int .i64 1, .int .i64 (-3), .string ⟨#[]⟩, .int .i64 2] 49)
  have hbx := box_news w #[.int .i64 5, .string ⟨#[]⟩, .int .i64 1, .int .i64 (-3), .string ⟨#[]⟩, .int .i64 2] 49
  have hrow : RowV (w.alloc (.cells #[.int .i64 5, .string ⟨#[]⟩, .int .i64 1, .int .i64 (-3), .string ⟨#[]⟩, .int .i64 2] 49)) (.slice (some ⟨w.heap.size, 0, none⟩) 2 2) 2 (prs [⟨5, ⟨#[]⟩, 1⟩, ⟨-3, ⟨#[]⟩, 2⟩]) := ⟨_, 2, rfl, Nat.le_refl _, fun _ => ⟨_, 0, rfl, hbx.row⟩⟩
  have HC := Lib.hid (sortedItems_any 0 0 [⟨5, ⟨#[]⟩, 1⟩, ⟨-3, ⟨#[]⟩, 2⟩] _ _ hO (fun p hp => by
    simp only [List.mem_cons, List.not_mem_nil, or_false] at hp
    rcases hp with rfl | rfl
    · exact ⟨⟨by decide, by decide⟩, ⟨by decide, by decide⟩, by decide⟩
    · exact ⟨⟨by decide, by decide⟩, ⟨by decide, by decide⟩, by decide⟩) (by decide) hrow ⟨0, 2, false, [⟨-3, ⟨#[]⟩, 2⟩, ⟨5, ⟨#[]⟩, 1⟩]⟩ (by rfl) (by rfl))
  have HB := Lib.hid hb
  clear hO hb hbx hrow
  go_enter Tryz.func7, Tryz.ntmps7
  go_upto_region 2 with (go_at_call 21; refine HC.out.mono ?_; rintro e w5 ⟨v5, rfl, hr5, hB5⟩)
  have hb6 := gNew w5 (.cells #[.int .i64 (-3), .string ⟨#[]⟩, .int .i64 2, .int .i64 5, .string ⟨#[]⟩, .int .i64 1] 49)
  have hbx := box_news w5 #[.int .i64 (-3), .string ⟨#[]⟩, .int .i64 2, .int .i64 5, .string ⟨#[]⟩, .int .i64 1] 49
  have hrow : RowV (w5.alloc (.cells #[.int .i64 (-3), .string ⟨#[]⟩, .int .i64 2, .int .i64 5, .string ⟨#[]⟩, .int .i64 1] 49)) (.slice (some ⟨w5.heap.size, 0, none⟩) 2 2) 2 (prs [⟨-3, ⟨#[]⟩, 2⟩, ⟨5, ⟨#[]⟩, 1⟩]) := ⟨_, 2, rfl, Nat.le_refl _, fun _ => ⟨_, 0, rfl, hbx.row⟩⟩
  have HS := Lib.hid (samePairs_any [⟨-3, ⟨#[]⟩, 2⟩, ⟨5, ⟨#[]⟩, 1⟩] v5 _ _ (by decide) (hr5.grow hb6) hrow)
  have HB6 := Lib.hid (gTrans HB.out (gTrans hB5 hb6))
  clear hr5 hB5 hb6 hbx hrow
  go_wp2_with (go_at_call 22; refine HS.out.mono ?_; rintro e w7 ⟨rfl, hB7⟩)
  go_ret
  exact ⟨rfl, gTrans HB6.out hB7⟩
end Go.Proofs.YtfejflhgaphilaaGreatDoor

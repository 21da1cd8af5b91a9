/-
  THE WALKS of the thin package's SortedSet and of its closure.
  THE WALK of the law FnSortedSet.
-/
import Derived.Test.YtfejflhgaphilaaGreatDoorVU
import Derived.Test.YtfejflhgaphilaaGreatDoorVW
import Derived.Test.YtfejflhgaphilaaGreatDoorVY
import Derived.Test.YtfejflhgaphilaaGreatDoorVZ
import Derived.Test.YtfejflhgaphilaaGreatDoorVP
set_option linter.all false
set_option linter.unusedVariables false
set_option linter.unusedSimpArgs false
set_option linter.unusedSectionVars false
namespace Go.Proofs.YtfejflhgaphilaaGreatDoor
open Go.RowKit Go.Sort Lst

theorem whole_by2 {w w' : World} {g i : Nat} {cs : List Value} {t : TypeId} (h : Whole w g cs t) (k : w.grownBy w' (some i)) (hg : g ≠ i) : Whole w' g cs t := (k.block g h.lt (fun e => hg (by injection e))).trans h

set_option maxHeartbeats 4000000 in
set_option maxRecDepth 100000 in
theorem closR (txt : Bool) (kk nn : Int) (ss : List St) (ssl : Value) (w : World) (hO : OrdOK kk nn) (hss : ∀ s ∈ ss, StOK s) (hlen : ss.length ≤ 200) (hwts : wts ss ≤ 20200) (hT : Tab w) (hR : RowV w ssl ss.length (sts ss))
    (p0 p1 p2 p3 : Nat) (c0 : w.cell? ⟨p0, 0, none⟩ = some (.bool txt)) (c1 : w.cell? ⟨p1, 0, none⟩ = some (.int .u8 kk)) (c1' : w.cell? ⟨p1, 1, none⟩ = some (.int .i64 nn)) (c2 : w.cell? ⟨p2, 0, none⟩ = some ssl) (n1 : p1 ≠ p3) (n2 : p2 ≠ p3) (hW : Whole w p3 [.slice none 0 0] 28) :
    Calls Tryz.prog 24 #[.pointer (some ⟨p0, 0, none⟩), .pointer (some ⟨p1, 0, none⟩), .pointer (some ⟨p2, 0, none⟩), .pointer (some ⟨p3, 0, none⟩)] w fun e w' => e = .returned (.tuple #[]) ∧
      w.grownBy w' (some p3) ∧ ∃ v, Whole w' p3 [v] 28 ∧ Answers w.heap.size w' v (runA txt true kk nn [[]] ss) := by
  have HW := Lib.hid hW
  have HC := Lib.hid (And.intro c1 (And.intro c1' c2))
  have HN := Lib.hid (And.intro n1 n2)
  have o3 := hR.one'
  have HP3 := Lib.hid hW.lt
  cases txt
  · have HCALL : Hid (∀ W, Below w.heap.size w W → Calls Tryz.prog 28 #[keysI, cvI kk nn, ssl] W fun e w' => ∃ v', e = .returned v' ∧ Answers W.heap.size w' v' (runA false true kk nn [[]] ss) ∧ Below W.heap.size W w') := fun W hB => RI.setRun_any kk nn ss ssl W hO hss hlen hwts (hR.grow hB)
    generalize runA false true kk nn [[]] ss = al at *
    clear hO hss hR hW n1 n2 hT hwts
    go_enter Tryz.func24, Tryz.ntmps24
    go_upto_region 2 with (fail)
    go_region_held3 (fun W : World => W.cell? ⟨p1, 0, none⟩ = some (.int .u8 kk) ∧ W.cell? ⟨p1, 1, none⟩ = some (.int .i64 nn) ∧ W.cell? ⟨p2, 0, none⟩ = some ssl)
      (first | exact HC.out | exact K5.out | exact K6.out | exact K7.out | exact K8.out)
      ((first | (go_at_call 29; refine (keysOfI _).mono ?_; rintro e w5 ⟨rfl, hB5⟩; have hb5 := gTrans (below_drew (gRefl w)) hB5; have K5 := Lib.hid (And.intro (gCell hb5 HC.out.1) (And.intro (gCell hb5 HC.out.2.1) (gCell hb5 HC.out.2.2))); have HB5 := Lib.hid hb5; clear hB5 hb5) | (go_at_call 30; refine (cmprOfI kk nn _).mono ?_; rintro e w6 ⟨rfl, hB6⟩; have hb6 := gTrans HB5.out hB6; have K6 := Lib.hid (And.intro (gCell hb6 HC.out.1) (And.intro (gCell hb6 HC.out.2.1) (gCell hb6 HC.out.2.2))); have HB6 := Lib.hid hb6; clear hB6 hb6) | (go_at_call 28; refine (HCALL.out _ HB6.out).mono ?_; rintro e w7 ⟨v, rfl, ha7, hB7⟩; have hb7 := gTrans HB6.out hB7; have hW7 := HW.out.grow hb7; have x0 := hW7.cell (j := 0) rfl; have f0 := hW7.frozen 0; obtain ⟨va, vc, rfl⟩ := ha7.slice; have hu := (whole_set hW7 (.slice va al.length vc) (i := 0) (by simp)).2; have K7 := Lib.hid (And.intro (gCell hb7 HC.out.1) (And.intro (gCell hb7 HC.out.2.1) (gCell hb7 HC.out.2.2))); have K8 := Lib.hid (And.intro (hu.cell (p := ⟨p1, 0, none⟩) HN.out.1 K7.out.1) (And.intro (hu.cell (p := ⟨p1, 1, none⟩) HN.out.1 K7.out.2.1) (hu.cell (p := ⟨p2, 0, none⟩) HN.out.2 K7.out.2.2))); have HB7 := Lib.hid hb7; have HA7 := Lib.hid ha7; have HW7 := Lib.hid hW7; clear hb7 hB7 hW7 ha7 hu)))
    obtain ⟨hW8, hU8⟩ := whole_set HW7.out (.slice va al.length vc) (i := 0) (by simp)
    have h56 := HB6.out.size
    have hp3 := HP3.out
    exact bodyPost_end (v := .tuple #[]) (by simp [results, Tryz.results24, go_sem]) rfl ⟨rfl, below_upd_by HB7.out hU8, .slice va al.length vc, hW8, (HA7.out.upd hU8 (by omega)).base h56⟩
  · have HCALL : Hid (∀ W, Below w.heap.size w W → Calls Tryz.prog 25 #[keysS, cvS kk nn, ssl] W fun e w' => ∃ v', e = .returned v' ∧ Answers W.heap.size w' v' (runA true true kk nn [[]] ss) ∧ Below W.heap.size W w') := fun W hB => RT.setRun_any kk nn ss ssl W hO hss hlen hwts (hT.grow hB) (hR.grow hB)
    generalize runA true true kk nn [[]] ss = al at *
    clear hO hss hR hW n1 n2 hT hwts
    go_enter Tryz.func24, Tryz.ntmps24
    go_upto_region 1 with (fail)
    go_region_held3 (fun W : World => W.cell? ⟨p1, 0, none⟩ = some (.int .u8 kk) ∧ W.cell? ⟨p1, 1, none⟩ = some (.int .i64 nn) ∧ W.cell? ⟨p2, 0, none⟩ = some ssl)
      (first | exact HC.out | exact K5.out | exact K6.out | exact K7.out | exact K8.out)
      ((first | (go_at_call 26; refine (keysOfS _).mono ?_; rintro e w5 ⟨rfl, hB5⟩; have hb5 := gTrans (below_drew (gRefl w)) hB5; have K5 := Lib.hid (And.intro (gCell hb5 HC.out.1) (And.intro (gCell hb5 HC.out.2.1) (gCell hb5 HC.out.2.2))); have HB5 := Lib.hid hb5; clear hB5 hb5) | (go_at_call 27; refine (cmprOfS kk nn _).mono ?_; rintro e w6 ⟨rfl, hB6⟩; have hb6 := gTrans HB5.out hB6; have K6 := Lib.hid (And.intro (gCell hb6 HC.out.1) (And.intro (gCell hb6 HC.out.2.1) (gCell hb6 HC.out.2.2))); have HB6 := Lib.hid hb6; clear hB6 hb6) | (go_at_call 25; refine (HCALL.out _ HB6.out).mono ?_; rintro e w7 ⟨v, rfl, ha7, hB7⟩; have hb7 := gTrans HB6.out hB7; have hW7 := HW.out.grow hb7; have x0 := hW7.cell (j := 0) rfl; have f0 := hW7.frozen 0; obtain ⟨va, vc, rfl⟩ := ha7.slice; have hu := (whole_set hW7 (.slice va al.length vc) (i := 0) (by simp)).2; have K7 := Lib.hid (And.intro (gCell hb7 HC.out.1) (And.intro (gCell hb7 HC.out.2.1) (gCell hb7 HC.out.2.2))); have K8 := Lib.hid (And.intro (hu.cell (p := ⟨p1, 0, none⟩) HN.out.1 K7.out.1) (And.intro (hu.cell (p := ⟨p1, 1, none⟩) HN.out.1 K7.out.2.1) (hu.cell (p := ⟨p2, 0, none⟩) HN.out.2 K7.out.2.2))); have HB7 := Lib.hid hb7; have HA7 := Lib.hid ha7; have HW7 := Lib.hid hW7; clear hb7 hB7 hW7 ha7 hu)))
    obtain ⟨hW8, hU8⟩ := whole_set HW7.out (.slice va al.length vc) (i := 0) (by simp)
    have h56 := HB6.out.size
    have hp3 := HP3.out
    exact bodyPost_end (v := .tuple #[]) (by simp [results, Tryz.results24, go_sem]) rfl ⟨rfl, below_upd_by HB7.out hU8, .slice va al.length vc, hW8, (HA7.out.upd hU8 (by omega)).base h56⟩

set_option maxHeartbeats 4000000 in
set_option maxRecDepth 100000 in
theorem sortedSet_any (txt : Bool) (kk nn : Int) (ss : List St) (ssl : Value) (w : World) (hO : OrdOK kk nn) (hss : ∀ s ∈ ss, StOK s) (hlen : ss.length ≤ 200) (hwts : wts ss ≤ 20200) (hTab : Tab w) (hR : RowV w ssl ss.length (sts ss)) :
    Calls Tryz.prog 8 #[.bool txt, ordV kk nn, ssl] w fun e w' => ∃ v', e = .returned (.tuple #[v', .bool true]) ∧ Answers w.heap.size w' v' (runA txt true kk nn [[]] ss) ∧ Below w.heap.size w w' := by
  have hmf : ∀ (fn : Fn) (first cap : Array Value) (w : World), (Instr.makeFunc fn first cap).run Tryz.prog w = .ok (.func fn first cap) w := fun _ _ _ _ => rfl
  have o3 := hR.one'
  have hR0 := hR
  obtain ⟨pa, pc, rfl, _, _⟩ := hR
  go_enter Tryz.func8, Tryz.ntmps8
  go_upto_region 1 with (fail)
  have hsz : ((((w.alloc (.cells #[.bool txt] 4)).alloc (.cells #[.int .u8 kk, .int .i64 nn] 31)).alloc (.cells #[.slice pa ss.length pc] 32)).alloc (.cells #[.slice none 0 0] 28)).heap.size = w.heap.size + 1 + 1 + 1 + 1 := by simp only [alloc_sz]
  have hB : Below w.heap.size w ((((w.alloc (.cells #[.bool txt] 4)).alloc (.cells #[.int .u8 kk, .int .i64 nn] 31)).alloc (.cells #[.slice pa ss.length pc] 32)).alloc (.cells #[.slice none 0 0] 28)) :=
    (gNew3 w _ _ _).trans ((gNew _ _).mono (by simp only [alloc_sz]; omega))
  have c0 : ((((w.alloc (.cells #[.bool txt] 4)).alloc (.cells #[.int .u8 kk, .int .i64 nn] 31)).alloc (.cells #[.slice pa ss.length pc] 32)).alloc (.cells #[.slice none 0 0] 28)).cell? ⟨w.heap.size, 0, none⟩ = some (.bool txt) := by go_simp
  have c1 : ((((w.alloc (.cells #[.bool txt] 4)).alloc (.cells #[.int .u8 kk, .int .i64 nn] 31)).alloc (.cells #[.slice pa ss.length pc] 32)).alloc (.cells #[.slice none 0 0] 28)).cell? ⟨w.heap.size + 1, 0, none⟩ = some (.int .u8 kk) := by go_simp
  have c1' : ((((w.alloc (.cells #[.bool txt] 4)).alloc (.cells #[.int .u8 kk, .int .i64 nn] 31)).alloc (.cells #[.slice pa ss.length pc] 32)).alloc (.cells #[.slice none 0 0] 28)).cell? ⟨w.heap.size + 1, 1, none⟩ = some (.int .i64 nn) := by go_simp
  have c2 : ((((w.alloc (.cells #[.bool txt] 4)).alloc (.cells #[.int .u8 kk, .int .i64 nn] 31)).alloc (.cells #[.slice pa ss.length pc] 32)).alloc (.cells #[.slice none 0 0] 28)).cell? ⟨w.heap.size + 1 + 1, 0, none⟩ = some (.slice pa ss.length pc) := by go_simp
  have hW : Whole ((((w.alloc (.cells #[.bool txt] 4)).alloc (.cells #[.int .u8 kk, .int .i64 nn] 31)).alloc (.cells #[.slice pa ss.length pc] 32)).alloc (.cells #[.slice none 0 0] 28)) (w.heap.size + 1 + 1 + 1) [.slice none 0 0] 28 := by
    have h := box_news (((w.alloc (.cells #[.bool txt] 4)).alloc (.cells #[.int .u8 kk, .int .i64 nn] 31)).alloc (.cells #[.slice pa ss.length pc] 32)) #[.slice none 0 0] 28
    simp only [alloc_sz] at h
    exact h
  generalize (((w.alloc (.cells #[.bool txt] 4)).alloc (.cells #[.int .u8 kk, .int .i64 nn] 31)).alloc (.cells #[.slice pa ss.length pc] 32)).alloc (.cells #[.slice none 0 0] 28) = wb at *
  have HT : Hid (Calls Tryz.prog 23 #[.func (.func 24) #[] #[.pointer (some ⟨w.heap.size, 0, none⟩), .pointer (some ⟨w.heap.size + 1, 0, none⟩), .pointer (some ⟨w.heap.size + 1 + 1, 0, none⟩), .pointer (some ⟨w.heap.size + 1 + 1 + 1, 0, none⟩)]] wb
      fun e w5 => e = .returned (.bool false) ∧ ∃ va n vc, Whole w5 (w.heap.size + 1 + 1 + 1) [.slice va n vc] 28 ∧ Answers (wb.heap.size + 1) w5 (.slice va n vc) (runA txt true kk nn [[]] ss) ∧ Below w.heap.size w w5) := by
    have hn := gNew wb (.cells #[.bool false] 4)
    have hbn := gTrans hB hn
    have hcl := closR txt kk nn ss (.slice pa ss.length pc) (wb.alloc (.cells #[.bool false] 4)) hO hss hlen hwts (hTab.grow hbn) (hR0.grow hbn) _ _ _ _ (gCell hn c0) (gCell hn c1) (gCell hn c1') (gCell hn c2) (by omega) (by omega) (hW.grow hn)
    have hbox := box_news wb #[.bool false] 4
    refine (thrown_any 24 _ wb (fun args W => by kernel_rfl) (fun w1 => (wb.alloc (.cells #[.bool false] 4)).grownBy w1 (some (w.heap.size + 1 + 1 + 1)) ∧ ∃ v, Whole w1 (w.heap.size + 1 + 1 + 1) [v] 28 ∧ Answers (wb.alloc (.cells #[.bool false] 4)).heap.size w1 v (runA txt true kk nn [[]] ss)) (hcl.mono ?_)).mono ?_
    · rintro e w1 ⟨rfl, hg, hv⟩
      have hb1 := whole_by2 hbox hg (by omega)
      exact ⟨rfl, hb1.cell (j := 0) rfl, hb1.frozen 0, hg, hv⟩
    · rintro e w5 ⟨rfl, w1, ⟨hg, v, hW1, ho1⟩, rfl⟩
      obtain ⟨va, vc, rfl⟩ := ho1.slice
      have hb1 := whole_by2 hbox hg (by omega)
      obtain ⟨hb2, hu2⟩ := whole_set hb1 (.bool false) (i := 0) (by simp)
      obtain ⟨hb3, hu3⟩ := whole_set hb2 (.bool false) (i := 0) (by simp)
      have hu := hu2.trans hu3
      rw [alloc_sz] at ho1
      refine ⟨rfl, va, _, vc, hW1.upd hu (by omega), ho1.upd hu (Nat.lt_succ_self _), ?_⟩
      exact below_upd (hbn.grown hg hbn.size (fun k hk => by injection hk with hk; omega)) hu (by have := hB.size; omega)
  clear hO hss hTab hwts hR0 hW hB o3 c0 c1 c1' c2
  go_upto_region 2 with (go_at_call 23; refine HT.out.mono ?_; rintro e w5 ⟨rfl, va, n, vc, hW5, ho5, hB5⟩)
  have x0 := hW5.cell (j := 0) rfl
  have f0 := hW5.frozen 0
  have HW5 := Lib.hid hW5
  have HO5 := Lib.hid ho5
  have HB5 := Lib.hid hB5
  clear hW5 ho5 hB5
  go_wp2
  obtain ⟨hW6, hU6⟩ := whole_set HW5.out (.slice va n vc) (i := 0) (by simp)
  have q6 := hW6.cell (j := 0) rfl
  have han : Answers w.heap.size (w5.setCell ⟨w.heap.size + 1 + 1 + 1, 0, none⟩ (.slice va n vc)) (.slice va n vc) (runA txt true kk nn [[]] ss) := (HO5.out.upd hU6 (by omega)).base (by omega)
  exact bodyPost_ret (v := .tuple #[.slice va n vc, .bool true]) (by simp [results, Tryz.results8, go_sem, q6]) rfl ⟨_, rfl, han, below_upd HB5.out hU6 (by omega)⟩
end Go.Proofs.YtfejflhgaphilaaGreatDoor

namespace Go.Proofs.YtfejflhgaphilaaGreatDoor
open Go.RowKit Go.Sort Lst

set_option maxHeartbeats 8000000 in
set_option maxRecDepth 100000 in
theorem fnSet (txt : Bool) (kk nn : Int) (hk0 : 0 ≤ kk) (ss : List St) (ssl : Value) (w : World) (hss : ∀ s ∈ ss, 0 ≤ s.op ∧ I64 s.at_ ∧ I64 s.key ∧ I64 s.val ∧ I64 s.by_) (hTab : Tab w) (hR : RowV w ssl ss.length (sts ss)) :
    Calls Tryz.prog 3 #[.bool txt, ordV kk nn, ssl] w fun e w' => e = .returned (.bool true) ∧ Below w.heap.size w w' := by
  have HB := Lib.hid (gNew w (.cells #[.int .u8 kk, .int .i64 nn] 23))
  have q0 : (w.alloc (.cells #[.int .u8 kk, .int .i64 nn] 23)).cell? ⟨w.heap.size, 0, none⟩ = some (.int .u8 kk) := by go_simp
  have q1 : (w.alloc (.cells #[.int .u8 kk, .int .i64 nn] 23)).cell? ⟨w.heap.size, 1, none⟩ = some (.int .i64 nn) := by go_simp
  have HRP := Lib.hid hR
  have HSS := Lib.hid hss
  have HTAB := Lib.hid hTab
  have H4 := Lib.hid (fits4 ss ssl _ (hR.grow HB.out))
  obtain ⟨pa, pc, rfl, _, _⟩ := hR
  clear hss hTab
  go_enter Tryz.func3, Tryz.ntmps3
  go_upto_region 1 with (fail)
  generalize w.alloc (.cells #[.int .u8 kk, .int .i64 nn] 23) = wa at *
  go_wp2_with (go_at_call 5; refine H4.out.mono ?_; rintro e w1 ⟨⟨z1, rfl, hz1⟩, hB1⟩; have r0 := gCell hB1 q0; have r1 := gCell hB1 q1; cases z1)
  · go_ret
    exact ⟨rfl, gTrans HB.out hB1⟩
  · clear hz1
    have HB1 := Lib.hid (gTrans HB.out hB1)
    have H6 := Lib.hid (sortedRight_any kk nn hk0 ss _ w1 (HRP.out.grow (gTrans HB.out hB1)))
    clear q0 q1 hB1 H4
    go_wp2_with (go_at_call 6; refine H6.out.mono ?_; rintro e w2 ⟨⟨z2, rfl, hz2⟩, hB2⟩; cases z2)
    · have HB2 := Lib.hid (gTrans HB1.out hB2)
      clear hB2 hz2
      go_wp2_with (go_at_call 7; refine (awake_any _).mono ?_; rintro e w3 ⟨rfl, hB3⟩)
      go_ret
      exact ⟨rfl, gTrans HB2.out hB3⟩
    · have HZ : Hid (OrdOK kk nn ∧ ss.length ≤ 200 ∧ (∀ s ∈ ss, StIn s) ∧ wts ss ≤ 20200) := hz2 (by simp)
      have HOK : Hid (∀ s ∈ ss, StOK s) := fun s hs => by
        obtain ⟨a1, a2, a3, a4, a5⟩ := HSS.out s hs
        have h := HZ.out.2.2.1 s hs
        exact ⟨a1, h.hi, a2, a3, a4, a5, h.cl, h.ch, h.text⟩
      have hl200 := HZ.out.2.1
      have r0 := gCell hB2 r0
      have r1 := gCell hB2 r1
      have HB2 := Lib.hid (gTrans HB1.out hB2)
      have HTS : Hid (∀ W, Below w.heap.size w W → Calls Tryz.prog 9 #[.slice pa ss.length pc] W fun e w' => ∃ v', e = .returned v' ∧ w'.ownsRow W.heap.size 90 7 v' ss.length (sts ss) ∧ Below W.heap.size W w') := fun W hW => toSteps_any ss _ W (by omega) (HRP.out.grow hW)
      have HSET : Hid (∀ W v, Below w.heap.size w W → RowV W v ss.length (sts ss) → Calls Tryz.prog 8 #[.bool txt, ordV kk nn, v] W fun e w' => ∃ v', e = .returned (.tuple #[v', .bool true]) ∧ Answers W.heap.size w' v' (runA txt true kk nn [[]] ss) ∧ Below W.heap.size W w') := fun W v hW hv =>
        sortedSet_any txt kk nn ss v W HZ.out.1 HOK.out HZ.out.2.1 HZ.out.2.2.2 (HTAB.out.grow hW) hv
      have HSPEC : Hid (∀ W, Below w.heap.size w W → Calls Tryz.prog 11 #[.bool txt, .bool true, ordV kk nn, .slice pa ss.length pc] W fun e w' => ∃ v', e = .returned v' ∧ Answers W.heap.size w' v' (runA txt true kk nn [[]] ss) ∧ Below W.heap.size W w') := fun W hW =>
        specSorted_any txt kk nn ss _ W HZ.out.1 HOK.out HZ.out.2.1 HZ.out.2.2.2 (HRP.out.grow hW)
      have HAL : Hid ((runA txt true kk nn [[]] ss).length ≤ 800000 ∧ ∀ an ∈ runA txt true kk nn [[]] ss, an.list.length ≤ 800000) := by
        refine ⟨by rw [length_runA]; omega, fun an ha => ?_⟩
        have h1 := list_runA txt true kk nn ss [[]] 0 (fun l hl => by simp only [List.mem_cons, List.not_mem_nil, or_false] at hl; subst hl; exact Nat.le_refl _) an ha
        have h2 := HZ.out.2.2.2
        omega
      generalize runA txt true kk nn [[]] ss = al at *
      clear hz2 hB2 H6
      go_upto_region 5 with (fail)
      go_region_held3 (fun W : World => W.cell? ⟨w.heap.size, 0, none⟩ = some (.int .u8 kk) ∧ W.cell? ⟨w.heap.size, 1, none⟩ = some (.int .i64 nn))
        (first | exact ⟨r0, r1⟩ | exact K5.out | exact K6.out)
        ((first | (go_at_call 9; refine (HTS.out _ (below_drew HB2.out)).mono ?_; rintro e w5 ⟨v5, rfl, ho5, hB5⟩; have hb5 := gTrans (below_drew (gRefl w2)) hB5; have K5 := Lib.hid (And.intro (gCell hb5 r0) (gCell hb5 r1)); have HC5 := Lib.hid (HSET.out w5 v5 (gTrans HB2.out hb5) (own_rowV ho5)); have HB5 := Lib.hid (gTrans HB2.out hb5); clear ho5 hB5 hb5) | (go_at_call 8; refine HC5.out.mono ?_; rintro e w6 ⟨v6, rfl, ha6, hB6⟩; have K6 := Lib.hid (And.intro (gCell hB6 K5.out.1) (gCell hB6 K5.out.2)); have HB6 := Lib.hid (gTrans HB5.out hB6); have HA6 := Lib.hid ha6.ansV; clear ha6 hB6)))
      have y0 := K6.out.1
      have y1 := K6.out.2
      clear r0 r1 K5 K6 HC5
      go_wp2_with (first | (go_at_call 7; refine (awake_any _).mono ?_; rintro e w7 ⟨rfl, hB7⟩; have z0 := gCell hB7 y0; have z1 := gCell hB7 y1; have HA7 := Lib.hid (HA6.out.grow hB7); have HB7 := Lib.hid (gTrans HB6.out hB7); clear hB7) | (go_at_call 11; refine (HSPEC.out _ HB7.out).mono ?_; rintro e w8 ⟨v8, rfl, ha8, hB8⟩; have HS8 := Lib.hid (sameAnswers_any al _ _ w8 HAL.out.1 HAL.out.2 (HA7.out.grow hB8) ha8.ansV); have HB8 := Lib.hid (gTrans HB7.out hB8); clear ha8 hB8) | (go_at_call 10; refine HS8.out.mono ?_; rintro e w9 ⟨rfl, hB9⟩))
      go_ret
      exact ⟨rfl, gTrans HB8.out hB9⟩
end Go.Proofs.YtfejflhgaphilaaGreatDoor

/-
  THE WALK of the thin package's sortedRun, keys of numbers, of scripts that put one key or list the pairs.
-/
import Derived.Test.YtfejflhgaphilaaGreatDoorVQ
import Derived.Test.YtfejflhgaphilaaGreatDoorVO
import Derived.Deep.CutBlock
import Derived.Deep.RegionHeld3
set_option linter.all false
set_option linter.unusedVariables false
set_option linter.unusedSimpArgs false
set_option linter.unusedSectionVars false
namespace Go.Proofs.YtfejflhgaphilaaGreatDoor
open Go.RowKit Go.Sort Lst

namespace WI0
theorem whole_by {w w' : World} {g i : Nat} {cs : List Value} {t : TypeId} (h : Whole w g cs t) (k : w.grownBy w' (some i)) (hg : g ≠ i) : Whole w' g cs t := (k.block g h.lt (fun e => hg (by injection e))).trans h
theorem okV {kk nn : Int} (hO : OrdOK kk nn) : (kk = 0 ∧ cvI kk nn = .nilIface) ∨ Nii.OK kk nn (cvI kk nn) := by
  unfold cvI
  by_cases h : kk = 0
  · exact .inl ⟨h, if_pos h⟩
  · rw [if_neg h]
    exact .inr (cmpOK_int (.inr ⟨hO.lo, hO.hi, hO.num, rfl⟩))
end WI0

theorem infoM : (Tryz.prog.info? 148).map (fun i => (i.zero, i.size, i.bytes)) = some (some (.pointer none), 1, 8) := by kernel_rfl
theorem infoN : (Tryz.prog.info? 92).map (fun i => (i.zero, i.size, i.bytes)) = some (some (.agg #[.int .i64 0, .int .i64 0, .bool false, .slice none 0 0]), 4, 48) := by kernel_rfl

abbrev mai (kk nn : Int) : World → (Nat → Prop) → Nat → Nat → List (Int × Int) → Prop := fun w S p N l => Nii.MapAt kk nn w S p N l
theorem keeps_mai (kk nn : Int) : Keeps (mai kk nn) := fun _ _ _ _ _ _ _ _ h hS hw hN => (Nii.MapAt.keep h hS hw).more hN

theorem oneAnc (x : An × Value) (h : x.2.oneCell' = true) : ∀ v ∈ anc x, v.oneCell' = true := by
  intro v hv
  simp only [List.mem_cons, List.not_mem_nil, or_false] at hv
  rcases hv with rfl | rfl | rfl | rfl
  · rfl
  · rfl
  · rfl
  · exact h

/-- Versions of numbers, as pairs. -/
abbrev vsI (ls : List (List (Int × Int))) : List (List Pr) := ls.map fun l => l.map embI

theorem verAt_I {ls : List (List (Int × Int))} {a : Int} {j : Nat} {l : List (Int × Int)} (hj : a % (ls.length : Int) = (j : Int)) (hl : ls[j]? = some l) : verAt (vsI ls) a = l.map embI := by
  unfold verAt
  rw [List.length_map, hj, Int.toNat_natCast, List.getElem?_map, hl]
  rfl

theorem stepI_put (kk nn : Int) (l : List (Int × Int)) (sa sk : Int) (st : ByteArray) (sv sc sb : Int) :
    stepNext false false kk nn (l.map embI) ⟨0, sa, sk, st, sv, sc, sb⟩ = some ((ins (Nii.f kk nn sk) (sk, sv) l).map embI) := by
  have h := ins_map (fP false kk nn (embI (sk, sv))) embI (sk, sv) l
  have e : stepNext false false kk nn (l.map embI) ⟨0, sa, sk, st, sv, sc, sb⟩ = some (ins (fP false kk nn (embI (sk, sv))) (embI (sk, sv)) (l.map embI)) := rfl
  rw [e, h]
  rfl
theorem saysI_put (kk nn : Int) (l : List (Int × Int)) (sa sk : Int) (st : ByteArray) (sv sc sb : Int) :
    stepSays false false kk nn (l.map embI) ⟨0, sa, sk, st, sv, sc, sb⟩ = ⟨0, ((ins (Nii.f kk nn sk) (sk, sv) l).length : Int), false, []⟩ := by
  unfold stepSays
  rw [stepI_put]
  simp
theorem stepI_list (kk nn : Int) (l : List (Int × Int)) (sa sk : Int) (st : ByteArray) (sv sc sb : Int) :
    stepNext false false kk nn (l.map embI) ⟨3, sa, sk, st, sv, sc, sb⟩ = none := rfl
theorem saysI_list (kk nn : Int) (l : List (Int × Int)) (sa sk : Int) (st : ByteArray) (sv sc sb : Int) :
    stepSays false false kk nn (l.map embI) ⟨3, sa, sk, st, sv, sc, sb⟩ = ⟨0, (l.length : Int), false, l.map embI⟩ := by
  unfold stepSays
  rw [stepI_list]
  simp

set_option maxHeartbeats 8000000 in
set_option maxRecDepth 100000 in
theorem sortedRun_any (kk nn : Int) (ss : List St) (ssl : Value) (w : World) (hO : OrdOK kk nn) (hss : ∀ s ∈ ss, StOK s ∧ (s.op = 0 ∨ s.op = 3)) (hlen : ss.length ≤ 1000) (hR : RowV w ssl ss.length (sts ss)) :
    Calls Tryz.prog 100 #[keysI, cvI kk nn, ssl] w fun e w' => ∃ v', e = .returned v' ∧ Answers w.heap.size w' v' (runA false false kk nn [[]] ss) ∧ Below w.heap.size w w' := by
  have HCV := Lib.hid (WI0.okV hO)
  generalize cvI kk nn = cv at *
  obtain ⟨a, cap, rfl, hcap, hrow⟩ := hR
  have HROW := Lib.hid hrow
  have HSS := Lib.hid hss
  have hB := gNew w (.cells #[.func (.func 69) #[] #[], .func (.func 70) #[] #[], .func (.func 71) #[] #[]] 85)
  have q0 : (w.alloc (.cells #[.func (.func 69) #[] #[], .func (.func 70) #[] #[], .func (.func 71) #[] #[]] 85)).cell? ⟨w.heap.size, 0, none⟩ = some (.func (.func 69) #[] #[]) := by go_simp
  have q1 : (w.alloc (.cells #[.func (.func 69) #[] #[], .func (.func 70) #[] #[], .func (.func 71) #[] #[]] 85)).cell? ⟨w.heap.size, 1, none⟩ = some (.func (.func 70) #[] #[]) := by go_simp
  have q2 : (w.alloc (.cells #[.func (.func 69) #[] #[], .func (.func 70) #[] #[], .func (.func 71) #[] #[]] 85)).cell? ⟨w.heap.size, 2, none⟩ = some (.func (.func 71) #[] #[]) := by go_simp
  have hw1 : (w.alloc (.cells #[.func (.func 69) #[] #[], .func (.func 70) #[] #[], .func (.func 71) #[] #[]] 85)).heap.size = w.heap.size + 1 := alloc_sz _ _
  have QS := Lib.hid (And.intro q0 (And.intro q1 (And.intro q2 hw1)))
  have HB := Lib.hid hB
  have HNEW : Hid (∀ W, Calls Tryz.prog 86 #[cv] W fun e w' => ∃ p', e = .returned (.pointer (some ⟨p', 0, none⟩)) ∧ Below W.heap.size W w' ∧ Nii.MapAt kk nn w' (Plus (fun _ => False) W w') p' 0 []) := fun W => Nii.mapNew kk nn cv HCV.out (fun _ => False) W
  obtain ⟨im, him, hm0, hm1, hm2⟩ := info_parts infoM
  obtain ⟨ia, hia, ha0, ha1, ha2⟩ := info_parts infoN
  clear hrow hO hss hB q0 q1 q2 hw1
  go_enter Tryz.func100, Tryz.ntmps100
  go_upto_region 1 with (fail)
  generalize w.alloc (.cells #[.func (.func 69) #[] #[], .func (.func 70) #[] #[], .func (.func 71) #[] #[]] 85) = wa at *
  go_upto_region 4 with (go_at_call 86; refine (HNEW.out _).mono ?_; rintro e w1 ⟨pm0, rfl, hB1, hM1⟩)
  have hRUN : Run (mai kk nn) 148 (w.heap.size + 1) (w1.alloc (.cells #[.pointer (some ⟨pm0, 0, none⟩)] 148)) (Plus (fun _ => False) wa w1) 0 [[]] (.slice (some ⟨w1.heap.size, 0, none⟩) 1 1) [] (.slice none 0 0) := by
    have hwa := QS.out.2.2.2
    have hlt : ∀ x, Plus (fun _ => False) wa w1 x → w.heap.size + 1 ≤ x ∧ x < w1.heap.size := fun x hx => by
      rcases hx with h | h
      · exact h.elim
      · exact ⟨by omega, h.2⟩
    have h1 := hB1.size
    refine ⟨fun x hx => by rw [alloc_sz]; have := (hlt x hx).2; omega, fun x hx => (hlt x hx).1, by rw [alloc_sz]; omega, ⟨[pm0], rfl, ?_, ?_⟩, World.ownsRow_nil _ _ _ _, fun _ h => (by cases h), fun k e hx => ?_, fun k e => (by cases e), fun k e e2 => (by cases e2)⟩
    · exact whole_own (tl := []) (by omega) (box_news w1 #[.pointer (some ⟨pm0, 0, none⟩)] 148) rfl (Nat.le_refl _) (by simp [maxLen]) rfl
    · intro j p l hj hl
      cases j with
      | zero =>
        simp only [List.getElem?_cons_zero, Option.some.injEq] at hj hl
        subst hj
        subst hl
        exact hM1.keep (fun _ h => h) fun b hb => (gNew w1 _).block b (hlt b hb).2
      | succ j => simp at hj
    · have e' : k = w1.heap.size := by simpa [Value.ownBlock] using e.symm
      have := (hlt k hx).2
      omega
  have HRUN := Lib.hid hRUN
  have HBB : Hid (Below wa.heap.size wa (w1.alloc (.cells #[.pointer (some ⟨pm0, 0, none⟩)] 148))) := gTrans hB1 (gNew w1 _)
  clear hB1 hM1 hRUN HNEW
  generalize hv7 : Value.slice (some ⟨w1.heap.size, 0, none⟩) 1 1 = v70 at *
  generalize w1.alloc (.cells #[.pointer (some ⟨pm0, 0, none⟩)] 148) = w2 at *
  clear hv7
  go_loopg [7, 8, 24] ss.length (fun g s7 s8 s24 wr => ∃ (i : Nat) (S : Nat → Prop) (ls : List (List (Int × Int))) (outs : List (An × Value)), i + g = ss.length ∧ s24 = .int .i64 i ∧ Run (mai kk nn) 148 (w.heap.size + 1) wr S i ls s7 outs s8 ∧
    runA false false kk nn [[]] ss = outs.map (·.1) ++ runA false false kk nn (vsI ls) (ss.drop i) ∧ Below (w.heap.size + 1) wa wr ∧ 0 < ls.length ∧ ls.length ≤ i + 1 ∧ outs.length ≤ i ∧ ∀ l ∈ ls, l.length ≤ i)
  case atStart => exact ⟨0, _, [[]], [], by omega, rfl, HRUN.out, rfl, HBB.out.mono (by have := QS.out.2.2.2; omega), Nat.zero_lt_one, Nat.le_refl _, Nat.le_refl _, fun l h => (by simp only [List.mem_cons, List.not_mem_nil, or_false] at h; subst h; exact Nat.le_refl _)⟩
  case round =>
    obtain ⟨i, S, ls, outs, hig, rfl, hrun, hA, hB, hl0, hl1, hlo, hll⟩ := hrel
    have hlt' : i < ss.length ∨ i = ss.length := by omega
    rcases hlt' with hlt | rfl
    · obtain ⟨b, o, rfl, hR⟩ := HROW.out (by omega)
      obtain ⟨⟨op, sa, sk, st, sv, sc, sb⟩, hp⟩ : ∃ m, ss[i]? = some m := ⟨_, List.getElem?_eq_getElem hlt⟩
      have hc := hR.st hp
      dsimp only at hc
      obtain ⟨c0, c1, c2, c3, c4, c5, c6⟩ := hc
      obtain ⟨q0, q1, q2, hwa⟩ := QS.out
      have hBw : Below w.heap.size w wr := HB.out.trans (hB.mono (Nat.le_succ _))
      have s0 := gCell hBw c0
      have s1 := gCell hBw c1
      have s2 := gCell hBw c2
      have s3 := gCell hBw c3
      have s4 := gCell hBw c4
      have s5 := gCell hBw c5
      have s6 := gCell hBw c6
      have r0 := cell_block (hB.block w.heap.size (Nat.lt_succ_self _)) q0
      have r1 := cell_block (hB.block w.heap.size (Nat.lt_succ_self _)) q1
      have r2 := cell_block (hB.block w.heap.size (Nat.lt_succ_self _)) q2
      obtain ⟨hok, hop⟩ := HSS.out _ (List.mem_of_getElem? hp)
      have HAT : Hid (I64 sa) := hok.at_
      have HKEY : Hid (I64 sk) := hok.key
      have hop' : op = 0 ∨ op = 3 := hop
      have HOP := Lib.hid hop'
      obtain ⟨ps, p1, p2, p3⟩ := hrun.row
      obtain ⟨j, hj, hjl⟩ : ∃ j : Nat, sa % (ls.length : Int) = (j : Int) ∧ j < ls.length := by
        have h1 := Int.emod_nonneg sa (show (ls.length : Int) ≠ 0 by omega)
        have h2 := Int.emod_lt_of_pos sa (show (0 : Int) < ls.length by omega)
        exact ⟨(sa % (ls.length : Int)).toNat, by omega, by omega⟩
      obtain ⟨l, hl⟩ : ∃ l, ls[j]? = some l := ⟨_, List.getElem?_eq_getElem hjl⟩
      obtain ⟨p, hpp⟩ : ∃ p, ps[j]? = some p := ⟨_, List.getElem?_eq_getElem (by omega)⟩
      have HM := Lib.hid (p3 j p l hpp hl)
      have HVER := Lib.hid (verAt_I hj hl)
      have HLL : Hid (l.length ≤ i) := hll l (List.mem_of_getElem? hl)
      obtain ⟨g7, cap7, tl7, rfl, hg7, hW7, hc7, hc7', hc7''⟩ := own_whole p2 hl0
      have x7 : wr.cell? ⟨g7, j, none⟩ = some (.pointer (some ⟨p, 0, none⟩)) := hW7.cell (by rw [List.getElem?_append_left (by simp; omega), List.getElem?_map, hpp]; rfl)
      have HATC := Lib.hid (fun W => at_any sa ls.length W hl0 (by omega) HAT.out)
      rw [hj] at HATC
      have hjli : (j : Int) < (ls.length : Int) := by omega
      have hii : (i : Int) < (ss.length : Int) := by omega
      have hb1 := gNew wr (.cells #[.int .u8 op, .int .i64 sa, .int .i64 sk, .string st, .int .i64 sv, .int .i64 sc, .int .i64 sb] 90)
      have x7' := gCell hb1 x7
      have hb2 := gNew2 wr (.cells #[.int .u8 op, .int .i64 sa, .int .i64 sk, .string st, .int .i64 sv, .int .i64 sc, .int .i64 sb] 90) (.cells #[.int .i64 0, .int .i64 0, .bool false, .slice none 0 0] 92)
      have HB2 := Lib.hid hb2
      have HRUN := Lib.hid hrun
      have HA := Lib.hid hA
      have HBR := Lib.hid hB
      have HIG := Lib.hid hig
      have HBND : Hid (0 < ls.length ∧ ls.length ≤ i + 1 ∧ outs.length ≤ i ∧ ∀ l ∈ ls, l.length ≤ i) := ⟨hl0, hl1, hlo, hll⟩
      have HP := Lib.hid hp
      have hwr : w.heap.size + 1 ≤ wr.heap.size := hrun.big
      have HWR := Lib.hid hwr
      have HWA := Lib.hid (box2 wr (.cells #[.int .u8 op, .int .i64 sa, .int .i64 sk, .string st, .int .i64 sv, .int .i64 sc, .int .i64 sb] 90) #[.int .i64 0, .int .i64 0, .bool false, .slice none 0 0] 92)
      have y0 := gCell hb2 r0
      have y1 := gCell hb2 r1
      have y2 := gCell hb2 r2
      have hbox := (box_news wr #[.int .u8 op, .int .i64 sa, .int .i64 sk, .string st, .int .i64 sv, .int .i64 sc, .int .i64 sb] 90).grow (gNew (wr.alloc (.cells #[.int .u8 op, .int .i64 sa, .int .i64 sk, .string st, .int .i64 sv, .int .i64 sc, .int .i64 sb] 90)) (.cells #[.int .i64 0, .int .i64 0, .bool false, .slice none 0 0] 92))
      have t0 := hbox.cell (j := 0) rfl
      have t2 := hbox.cell (j := 2) rfl
      have t3 := hbox.cell (j := 3) rfl
      have t4 := hbox.cell (j := 4) rfl
      have HSZB0 : Hid (((wr.alloc (.cells #[.int .u8 op, .int .i64 sa, .int .i64 sk, .string st, .int .i64 sv, .int .i64 sc, .int .i64 sb] 90)).alloc (.cells #[.int .i64 0, .int .i64 0, .bool false, .slice none 0 0] 92)).heap.size = wr.heap.size + 2) := by show _ = _; rw [alloc_sz, alloc_sz]
      clear hb1 hb2 hrun hA hB hig hp hwr c0 c1 c2 c3 c4 c5 c6 q0 q1 q2 hwa hBw hR hok hop hop' p1 p2 p3 hj hl hpp hg7 hW7 hc7'' hll hbox x7 hl1 hlo
      go_upto_region 8 with (go_at_call 45; refine (HATC.out _).mono ?_; rintro e wz ⟨rfl, hwz⟩; subst hwz)
      clear s0 s1 s2 s3 s4 s5 s6 r0 r1 r2 x7' HATC
      generalize (wr.alloc (.cells #[.int .u8 op, .int .i64 sa, .int .i64 sk, .string st, .int .i64 sv, .int .i64 sc, .int .i64 sb] 90)).alloc (.cells #[.int .i64 0, .int .i64 0, .bool false, .slice none 0 0] 92) = wb at *
      have hnA : wr.heap.size ≤ wr.heap.size + 1 := Nat.le_succ _
      have HNA : Hid (¬ S (wr.heap.size + 1) ∧ (Value.slice (some ⟨g7, 0, none⟩) ls.length cap7).ownBlock ≠ some (wr.heap.size + 1) ∧ u8.ownBlock ≠ some (wr.heap.size + 1)) := by
        obtain ⟨ps, p1, p2, p3⟩ := HRUN.out.row
        exact ⟨fun h => by have := HRUN.out.lt _ h; omega, fun h => by have := (p2.lt _ h).2; omega, fun h => by have := (HRUN.out.out.lt _ h).2; omega⟩
      clear hnA
      have HRB := Lib.hid (HRUN.out.grow (keeps_mai kk nn) HB2.out)
      have HMB := Lib.hid (Nii.MapAt.keep HM.out (fun _ h => h) fun b hb => HB2.out.block b (HRUN.out.lt b hb))
      have HBM : Hid (outs.length + 1 ≤ 10000 ∧ ls.length + 1 ≤ 10000) := by have h := HBND.out; have h2 := HIG.out; exact ⟨by omega, by omega⟩
      have HMX : Hid (outs.length + 1 ≤ maxLen) := by show _ ≤ _; simp only [maxLen]; have := HBM.out; omega
      have HBYT : Hid ((outs.length + 1) * 48 ≤ 140737488355328) := by show _ ≤ _; have := HBM.out; omega
      have HMX7 : Hid (ls.length + 1 ≤ maxLen) := by show _ ≤ _; simp only [maxLen]; have := HBM.out; omega
      have HBYT7 : Hid ((ls.length + 1) * 8 ≤ 140737488355328) := by show _ ≤ _; have := HBM.out; omega
      have HSZB : Hid (wb.heap.size = wr.heap.size + 2) := HSZB0.out
      rcases HOP.out with rfl | rfl
      · have HSET := Lib.hid (Nii.mapSet kk nn sk HKEY.out sv S wb.drew (fun x hx => HRB.out.lt x hx) p i l (Nii.MapAt.keep HMB.out (fun _ h => h) (fun _ _ => rfl)) (by have := HLL.out; omega))
        go_upto_region 10 with (fail)
        refine wp_region_still_tail 10 (by kernel_rfl) (by kernel_rfl) ?_
        simp only [List.take_succ_cons, List.take_zero, List.drop_succ_cons, List.drop_zero]
        change wpStill _ _ wb.drew _ _ _
        repeat still_step
        still_call (keyI sk st wb.drew)
        repeat still_step
        refine wpStill_nil ?_
        go_upto_region 40 with (first | (go_at_call 87; refine HSET.out.mono ?_; rintro e w5 ⟨p', rfl, hB5, hM5⟩; have hb5 := gTrans (below_drew (gRefl wb)) hB5; have hWA5 := HWA.out.grow hb5; have x1 := hWA5.cell (j := 1) rfl; have f1 := hWA5.frozen 1; have t0' := gCell hb5 t0; have HB5 := Lib.hid hb5; have HM5 := Lib.hid hM5; have HWA5 := Lib.hid hWA5; have HPL := Lib.hid (HRB.out.plus (keeps_mai kk nn) (w' := w5) (M := i + 1) hb5 (Nat.le_succ i)); clear hB5 hb5 hM5 hWA5) | (go_at_call 148; refine (Nii.mapLen kk nn _ w5 p' _ _ HM5.out).mono ?_; rintro e w6 ⟨rfl, h6⟩; subst h6))
        generalize hLn : ins (Nii.f kk nn sk) (sk, sv) l = l' at *
        have HLN := Lib.hid hLn
        clear hLn
        have HLL' : Hid (l'.length ≤ i + 1) := by
          have h1 := HLL.out
          have h2 := length_ins (Nii.f kk nn sk) (sk, sv) l
          rw [HLN.out] at h2
          show _ ≤ _
          split at h2 <;> omega
        have hSZ : wb.heap.size = wr.heap.size + 2 := HSZB.out
        obtain ⟨hW6, hU6⟩ := whole_set HWA5.out (.int .i64 l'.length) (i := 1) (by simp)
        have hnP : ¬ Plus S wb w6 (wr.heap.size + 1) := fun h => by
          rcases h with h | h
          · exact HNA.out.1 h
          · omega
        have hrv := HPL.out.upd (keeps_mai kk nn) hU6 hnP HNA.out.2.1 HNA.out.2.2
        have hmv : Nii.MapAt kk nn (w6.setCell ⟨wr.heap.size + 1, 1, none⟩ (.int .i64 l'.length)) (Plus S wb w6) p' (i + 1) l' := Nii.MapAt.keep HM5.out (fun _ h => h) fun b hb => hU6.heap (fun e => hnP (e ▸ hb))
        have HW6 : Hid (Whole (w6.setCell ⟨wr.heap.size + 1, 1, none⟩ (.int .i64 l'.length)) (wr.heap.size + 1) (anc (⟨0, (l'.length : Int), false, []⟩, .slice none 0 0)) 92) := hW6
        have hbv : Below wr.heap.size wr (w6.setCell ⟨wr.heap.size + 1, 1, none⟩ (.int .i64 l'.length)) := below_upd (gTrans HB2.out HB5.out) hU6 (Nat.le_succ _)
        have HBV := Lib.hid hbv
        have HRV := Lib.hid hrv
        have HMV := Lib.hid hmv
        clear hSZ hW6 hU6 hnP hrv hmv hbv x1 f1 t0' t0 t2 t3 t4 y0 y1 y2
        generalize w6.setCell ⟨wr.heap.size + 1, 1, none⟩ (.int .i64 l'.length) = wv at *
        have hgn := gNew wv (.cells #[.pointer (some ⟨p', 0, none⟩)] 148)
        have hrn := HRV.out.grow (keeps_mai kk nn) hgn
        obtain ⟨ps, r1, r2, r3⟩ := hrn.row
        have HR2 := Lib.hid r2
        have HR13 := Lib.hid (And.intro r1 r3)
        have HRN := Lib.hid hrn
        have HN7 := Lib.hid (news_of (box_news wv #[.pointer (some ⟨p', 0, none⟩)] 148))
        have HBASE := Lib.hid hrn.big
        have HWN := Lib.hid (HW6.out.grow hgn)
        have HBN := Lib.hid (gTrans HBV.out (hgn))
        have HMN := Lib.hid (Nii.MapAt.keep HMV.out (fun _ h => h) fun b hb => hgn.block b (HRV.out.lt b hb))
        have HONE : Hid (∀ u ∈ [Value.pointer (some ⟨p', 0, none⟩)], u.oneCell' = true) := by intro u hu; simp only [List.mem_cons, List.not_mem_nil, or_false] at hu; subst hu; rfl
        clear hgn hrn r1 r2 r3
        go_upto_region 41 with ((with_reducible refine at_slot 163 ?_); refine wpList_append_moved _ rfl _ _ 223 rfl (w.heap.size + 1) 148 im _ 1 8 Tryz.underlying223 him hm0 hm1 hm2 rfl (by omega) _ ls.length (ps.map fun p => Value.pointer (some ⟨p, 0, none⟩)) (by rfl) HR2.out ⟨wv.heap.size, 0, none⟩ 1 1 [.pointer (some ⟨p', 0, none⟩)] (by rfl) rfl HN7.out HONE.out HMX7.out HBYT7.out HBASE.out ?_; intro v7' w8 hown7 hgr7 hmv7)
        have HRU8 := Lib.hid (HRN.out.ver (keeps_mai kk nn) HR13.out.1 HR2.out HR13.out.2 hgr7 hmv7 hown7 HMN.out)
        have hW8 : Whole w8 (wr.heap.size + 1) (anc (⟨0, (l'.length : Int), false, []⟩, .slice none 0 0)) 92 := (hgr7.block _ HWN.out.lt (fun e => HNA.out.2.1 e.symm)).trans HWN.out
        have z0 := hW8.cell (j := 0) rfl
        have z1 := hW8.cell (j := 1) rfl
        have z2 := hW8.cell (j := 2) rfl
        have z3 := hW8.cell (j := 3) rfl
        have hgn8 := gNew w8 (.cells (anc (⟨0, (l'.length : Int), false, []⟩, .slice none 0 0)).toArray 92)
        have HR9 := Lib.hid (HRU8.out.grow (keeps_mai kk nn) hgn8)
        have HN9 := Lib.hid (news_of (box_news w8 (anc (⟨0, (l'.length : Int), false, []⟩, .slice none 0 0)).toArray 92))
        have HONE9 : Hid (∀ u ∈ anc (⟨0, (l'.length : Int), false, []⟩, .slice none 0 0), u.oneCell' = true) := oneAnc _ rfl
        have HLT7 := Lib.hid HR2.out.lt
        have HB8 : Hid (Below (w.heap.size + 1) wa w8) := HBR.out.trans ((HBN.out.mono HWR.out).grown hgr7 HBASE.out (fun k hk => (HLT7.out k hk).1))
        clear hown7 hgr7 hmv7 hW8 hgn8
        go_wp2_with ((with_reducible refine at_slot 167 ?_); refine wpList_append_moved _ rfl _ _ 28 rfl (w.heap.size + 1) 92 ia _ 4 48 Tryz.underlying28 hia ha0 ha1 ha2 rfl (by omega) _ outs.length (ancs outs) (by rfl) HR9.out.out ⟨w8.heap.size, 0, none⟩ 1 1 (anc (⟨0, (l'.length : Int), false, []⟩, .slice none 0 0)) (by rfl) rfl HN9.out HONE9.out HMX.out HBYT.out HR9.out.big ?_; intro v8' w10 hown8 hgr8 hmv8)
        have HLT8 := Lib.hid HR9.out.out.lt
        go_roundg (gk - 1)
        case measure => have := HIG.out; omega
        case rel =>
          have hig := HIG.out
          obtain ⟨b1, b2, b3, b4⟩ := HBND.out
          have hb10 := (HB8.out.trans ((gNew w8 (.cells (anc (⟨0, (l'.length : Int), false, []⟩, .slice none 0 0)).toArray 92)).mono HRU8.out.big)).grown hgr8 HR9.out.big (fun k hk => (HLT8.out k hk).1)
          refine ⟨i + 1, Plus S wb w6, ls ++ [l'], outs ++ [(⟨0, (l'.length : Int), false, []⟩, .slice none 0 0)], by omega, by simp, HR9.out.say (keeps_mai kk nn) hgr8 hmv8 hown8 ⟨none, 0, rfl, Nat.le_refl _, fun h => absurd h (Nat.lt_irrefl _)⟩, ?_, hb10, by simp, by simp; omega, by simp; omega, ?_⟩
          · have h := runA_step HP.out HA.out
            rw [show (⟨0, sa, sk, st, sv, sc, sb⟩ : St).at_ = sa from rfl, HVER.out, saysI_put, stepI_put, HLN.out] at h
            rw [h]
            simp [vsI]
          · intro m hm
            rcases List.mem_append.1 hm with hm | hm
            · have := b4 m hm; omega
            · simp only [List.mem_cons, List.not_mem_nil, or_false] at hm
              subst hm
              exact HLL'.out
      · have HIT1 := Lib.hid (fun (W : World) (hW : Below wb.heap.size wb W) => Nii.mapIter kk nn S W (fun x hx => Nat.lt_of_lt_of_le (HRB.out.lt x hx) hW.size) p i (Nat.lt_of_le_of_lt (show i ≤ 1000 by omega) (by decide)) l (Nii.MapAt.keep HMB.out (fun _ h => h) fun b hb => hW.block b (HRB.out.lt b hb)))
        have HNWA : Hid (w.heap.size ≠ wr.heap.size + 1) := by have := HWR.out; show _ ≠ _; omega
        have hll : l.length ≤ 800000 := by have := HLL.out; omega
        have HLL8 := Lib.hid hll
        clear hll
        go_upto_region 16 with (fail)
        go_region_held3 (fun W : World => W.cell? ⟨w.heap.size, 0, none⟩ = some (.func (.func 69) #[] #[]) ∧ W.cell? ⟨w.heap.size, 1, none⟩ = some (.func (.func 70) #[] #[]) ∧ W.cell? ⟨w.heap.size, 2, none⟩ = some (.func (.func 71) #[] #[]))
          (first | exact ⟨y0, y1, y2⟩ | exact K5.out | exact K6.out | exact K8.out | exact K9.out)
          ((first | (go_at_call 88; refine (HIT1.out _ (below_drew (gRefl _))).mono ?_; rintro e w5 ⟨rfl, hB5, hI5⟩; have hb5 := gTrans (below_drew (gRefl wb)) hB5; have K5 := Lib.hid (And.intro (gCell hb5 y0) (And.intro (gCell hb5 y1) (gCell hb5 y2))); have HPO := Lib.hid (pairsOf_any kk nn S w5 (fun x hx => Nat.lt_of_lt_of_le (HRB.out.lt x hx) hb5.size) _ p i l HLL8.out hI5); have HB5 := Lib.hid hb5; have HI5 := Lib.hid hI5.lt; clear hB5 hb5 hI5) | (go_at_call 147; refine HPO.out.mono ?_; rintro e w6 ⟨v, rfl, ho6, hg6⟩; obtain ⟨va, vc, rfl, hvc, hvr⟩ := own_rowV ho6; clear hvc hvr; have hb6 := HB5.out.grown hg6 HB5.out.size (fun k hk => (by injection hk with hk; exact Nat.le_of_eq hk)); have K6 := Lib.hid (And.intro (gCell hb6 y0) (And.intro (gCell hb6 y1) (gCell hb6 y2))); have HO6 := Lib.hid ho6; have HB6 := Lib.hid hb6; have HLEN := Lib.hid (Nii.mapLen kk nn S w6 p i l (Nii.MapAt.keep HMB.out (fun _ h => h) fun b hb => hb6.block b (HRB.out.lt b hb))); have hWA6 := HWA.out.grow hb6; have x3 := hWA6.cell (j := 3) rfl; have f3 := hWA6.frozen 3; have x1 := hWA6.cell (j := 1) rfl; have f1 := hWA6.frozen 1; have HWA6 := Lib.hid hWA6; have hU8 := whole_set hWA6 (.slice va l.length vc) (i := 3) (by simp); have hU9 := whole_set hU8.1 (.int .i64 l.length) (i := 1) (by simp); have K8 := Lib.hid (And.intro (hU8.2.cell (p := ⟨w.heap.size, 0, none⟩) HNWA.out K6.out.1) (And.intro (hU8.2.cell (p := ⟨w.heap.size, 1, none⟩) HNWA.out K6.out.2.1) (hU8.2.cell (p := ⟨w.heap.size, 2, none⟩) HNWA.out K6.out.2.2))); have K9 := Lib.hid (And.intro (hU9.2.cell (p := ⟨w.heap.size, 0, none⟩) HNWA.out K8.out.1) (And.intro (hU9.2.cell (p := ⟨w.heap.size, 1, none⟩) HNWA.out K8.out.2.1) (hU9.2.cell (p := ⟨w.heap.size, 2, none⟩) HNWA.out K8.out.2.2))); clear ho6 hg6 hb6 hWA6 hU8 hU9) | (go_at_call 148; refine HLEN.out.mono ?_; rintro e w7 ⟨rfl, h7⟩; subst h7)))
        have hSZ : wb.heap.size = wr.heap.size + 2 := HSZB.out
        obtain ⟨hW8, hU8⟩ := whole_set HWA6.out (.slice va l.length vc) (i := 3) (by simp)
        obtain ⟨hW9, hU9⟩ := whole_set hW8 (.int .i64 l.length) (i := 1) (by simp)
        have hU := hU8.trans hU9
        have hnP : ¬ Plus S wb w7 (wr.heap.size + 1) := fun h => by
          rcases h with h | h
          · exact HNA.out.1 h
          · omega
        have hrv := (HRB.out.plus (keeps_mai kk nn) (w' := w7) (M := i + 1) HB6.out (Nat.le_succ i)).upd (keeps_mai kk nn) hU hnP HNA.out.2.1 HNA.out.2.2
        have hlt6 := HO6.out.lt
        have h55 := HB5.out.size
        have hrs : RowS w7 (Plus S wb w7) (.slice va l.length vc) l.length (prs (l.map embI)) := own_rowS HO6.out (fun k hk => .inr ⟨by have := (hlt6 k hk).1; omega, (hlt6 k hk).2⟩)
        have hrs9 : RowS ((w7.setCell ⟨wr.heap.size + 1, 3, none⟩ (.slice va l.length vc)).setCell ⟨wr.heap.size + 1, 1, none⟩ (.int .i64 l.length)) (Plus S wb w7) (.slice va l.length vc) l.length (prs (l.map embI)) := hrs.keep (fun _ h => h) (fun b hb => hU.heap (fun e => hnP (e ▸ hb)))
        have HRS : Hid (RowS ((w7.setCell ⟨wr.heap.size + 1, 3, none⟩ (.slice va l.length vc)).setCell ⟨wr.heap.size + 1, 1, none⟩ (.int .i64 l.length)) (Plus S wb w7) (.slice va l.length vc) (l.map embI).length (prs (l.map embI))) := by rw [List.length_map]; exact hrs9
        have HW9 : Hid (Whole ((w7.setCell ⟨wr.heap.size + 1, 3, none⟩ (.slice va l.length vc)).setCell ⟨wr.heap.size + 1, 1, none⟩ (.int .i64 l.length)) (wr.heap.size + 1) (anc (⟨0, (l.length : Int), false, l.map embI⟩, .slice va l.length vc)) 92) := hW9
        have t0f := hU.cell (p := ⟨wr.heap.size, 0, none⟩) (by show wr.heap.size ≠ wr.heap.size + 1; omega) (gCell HB6.out t0)
        have HBV : Hid (Below wr.heap.size wr ((w7.setCell ⟨wr.heap.size + 1, 3, none⟩ (.slice va l.length vc)).setCell ⟨wr.heap.size + 1, 1, none⟩ (.int .i64 l.length))) := below_upd (gTrans HB2.out HB6.out) hU (Nat.le_succ _)
        have HRV := Lib.hid hrv
        clear hSZ hW8 hU8 hW9 hU9 hU hnP hrv hlt6 h55 hrs hrs9 t0 t2 t3 t4 y0 y1 y2 x3 f3 x1 f1 K5 K6 K8 K9
        generalize (w7.setCell ⟨wr.heap.size + 1, 3, none⟩ (.slice va l.length vc)).setCell ⟨wr.heap.size + 1, 1, none⟩ (.int .i64 l.length) = wv at *
        have z0 := HW9.out.cell (j := 0) rfl
        have z1 := HW9.out.cell (j := 1) rfl
        have z2 := HW9.out.cell (j := 2) rfl
        have z3 := HW9.out.cell (j := 3) rfl
        have hgn8 := gNew wv (.cells (anc (⟨0, (l.length : Int), false, l.map embI⟩, .slice va l.length vc)).toArray 92)
        have HR9 := Lib.hid (HRV.out.grow (keeps_mai kk nn) hgn8)
        have HRS9 := Lib.hid (HRS.out.keep (fun _ h => h) (fun b hb => hgn8.block b (HRV.out.lt b hb)))
        have HN9 := Lib.hid (news_of (box_news wv (anc (⟨0, (l.length : Int), false, l.map embI⟩, .slice va l.length vc)).toArray 92))
        have HONE9 : Hid (∀ u ∈ anc (⟨0, (l.length : Int), false, l.map embI⟩, .slice va l.length vc), u.oneCell' = true) := oneAnc _ rfl
        have HB8 : Hid (Below (w.heap.size + 1) wa wv) := HBR.out.trans (HBV.out.mono HWR.out)
        clear hgn8
        go_wp2_with ((with_reducible refine at_slot 167 ?_); refine wpList_append_moved _ rfl _ _ 28 rfl (w.heap.size + 1) 92 ia _ 4 48 Tryz.underlying28 hia ha0 ha1 ha2 rfl (by omega) _ outs.length (ancs outs) (by rfl) HR9.out.out ⟨wv.heap.size, 0, none⟩ 1 1 (anc (⟨0, (l.length : Int), false, l.map embI⟩, .slice va l.length vc)) (by rfl) rfl HN9.out HONE9.out HMX.out HBYT.out HR9.out.big ?_; intro v8' w10 hown8 hgr8 hmv8)
        have HLT8 := Lib.hid HR9.out.out.lt
        go_roundg (gk - 1)
        case measure => have := HIG.out; omega
        case rel =>
          have hig := HIG.out
          obtain ⟨b1, b2, b3, b4⟩ := HBND.out
          have hb10 := (HB8.out.trans ((gNew wv (.cells (anc (⟨0, (l.length : Int), false, l.map embI⟩, .slice va l.length vc)).toArray 92)).mono HRV.out.big)).grown hgr8 HR9.out.big (fun k hk => (HLT8.out k hk).1)
          refine ⟨i + 1, Plus S wb w7, ls, outs ++ [(⟨0, (l.length : Int), false, l.map embI⟩, .slice va l.length vc)], by omega, by simp, HR9.out.say (keeps_mai kk nn) hgr8 hmv8 hown8 HRS9.out, ?_, hb10, b1, by omega, by simp; omega, fun m hm => by have := b4 m hm; omega⟩
          have h := runA_step HP.out HA.out
          rw [show (⟨3, sa, sk, st, sv, sc, sb⟩ : St).at_ = sa from rfl, HVER.out, saysI_list, stepI_list] at h
          rw [h]
          simp
    · have HE := Lib.hid (runA_end (Nat.le_refl _) hA)
      have HAN := Lib.hid (hrun.done rfl)
      have HB2 := Lib.hid (HB.out.trans (hB.mono (Nat.le_succ _)))
      clear hrun hA hB
      go_wp2
      go_ret
      rw [← HE.out]
      obtain ⟨outs', h1, h2, h3⟩ := HAN.out
      exact ⟨_, rfl, ⟨outs', h1, h2.keep (fun b hb => Nat.le_trans (Nat.le_succ _) hb) (fun _ _ => rfl), h3.keep (fun b hb => Nat.le_trans (Nat.le_succ _) hb) (fun _ _ => rfl)⟩, HB2.out⟩
end Go.Proofs.YtfejflhgaphilaaGreatDoor

/-
  THE WALK of the thin package's sortedSetRun, T.
-/
import Derived.Test.YtfejflhgaphilaaGreatDoorVSS
import Derived.Test.YtfejflhgaphilaaGreatDoorVO
import Derived.Test.YtfejflhgaphilaaGreatDoorVC
import Derived.Deep.DeepCutAuto
import Derived.Deep.RegionLaw
set_option linter.all false
set_option linter.unusedVariables false
set_option linter.unusedSimpArgs false
set_option linter.unusedSectionVars false
namespace Go.Proofs.YtfejflhgaphilaaGreatDoor
open Go.RowKit Go.Sort Lst
namespace RT

theorem infoM : (Tryz.prog.info? 108).map (fun i => (i.zero, i.size, i.bytes)) = some (some (.agg #[.pointer none]), 1, 8) := by kernel_rfl
theorem infoN : (Tryz.prog.info? 92).map (fun i => (i.zero, i.size, i.bytes)) = some (some (.agg #[.int .i64 0, .int .i64 0, .bool false, .slice none 0 0]), 4, 48) := by kernel_rfl
theorem infoP : (Tryz.prog.info? 59).map (fun i => (i.zero, i.size, i.bytes)) = some (some (.agg #[.int .i64 0, .string ⟨#[]⟩, .int .i64 0]), 3, 32) := by kernel_rfl
theorem okV {kk nn : Int} (hO : OrdOK kk nn) : (kk = 0 ∧ cvS kk nn = .nilIface) ∨ Nss.OK kk nn (cvS kk nn) := by
  unfold cvS
  by_cases h : kk = 0
  · exact .inl ⟨h, if_pos h⟩
  · rw [if_neg h]
    exact .inr (cmpOK_text (nn := nn) (.inr ⟨hO.lo, hO.hi, rfl⟩))

abbrev ma (kk nn : Int) : World → (Nat → Prop) → Nat → Nat → List (ByteArray × Int) → Prop := fun w S p N l => Nss.MapAt kk nn w S p N l
theorem keeps_ma (kk nn : Int) : Keeps (ma kk nn) := fun _ _ _ _ _ _ _ _ h hS hw hN => (Nss.MapAt.keep h hS hw).more hN
abbrev vs (ls : List (List (ByteArray × Int))) : List (List Pr) := ls.map fun l => l.map embS
theorem verAt_ {ls : List (List (ByteArray × Int))} {a : Int} {j : Nat} {l : List (ByteArray × Int)} (hj : a % (ls.length : Int) = (j : Int)) (hl : ls[j]? = some l) : verAt (vs ls) a = l.map embS := by
  unfold verAt
  rw [List.length_map, hj, Int.toNat_natCast, List.getElem?_map, hl]
  rfl
theorem next_of {α : Type} {l : List α} {i : Nat} {x : α} (h : l[i]? = some x) : l.take (i + 1) = l.take i ++ [x] := by
  obtain ⟨hl, he⟩ := List.getElem?_eq_some_iff.1 h
  rw [List.take_succ_eq_append_getElem hl, he]
theorem hf (kk nn : Int) (k : ByteArray) : (fun a => fP true kk nn (embS (k, 0)) (embS a)) = Nss.f kk nn k := rfl
theorem oneAn (x : An) (a : Option Addr) (n c : Nat) : ∀ v ∈ anc (x, .slice a n c), v.oneCell' = true := by
  intro v hv
  simp only [List.mem_cons, List.not_mem_nil, or_false] at hv
  rcases hv with rfl | rfl | rfl | rfl <;> rfl
theorem pair_ (k : ByteArray) (w : World) : Calls Tryz.prog 58 #[Value.string k, .int .i64 0] w fun e w' => e = .returned (.agg #[.int .i64 0, .string k, .int .i64 0]) ∧ Below w.heap.size w w' := pairS k 0 w
theorem look_set (kk nn : Int) (k : ByteArray) (l : List (ByteArray × Int)) (hz : ∀ x ∈ l, x.2 = 0) (sa : Int) (sk : Int) (st : ByteArray) (sv sc sb : Int) (hq : zeroP true (keyP true ⟨sk, st, sv⟩) = embS (k, 0)) :
    stepSays true true kk nn (l.map embS) ⟨2, sa, sk, st, sv, sc, sb⟩ = ⟨0, 0, has (Nss.f kk nn k) l, []⟩ := by
  rw [stepSays_look rfl]
  unfold stepLook
  show (match Lst.look (fP true kk nn (zeroP true (keyP true ⟨sk, st, sv⟩))) (l.map embS) with | some p => (⟨p.val, 0, true, []⟩ : An) | none => an0) = _
  rw [hq, Lst.look_map, hf]
  unfold Lst.look
  cases hh : has (Nss.f kk nn k) l with
  | false => rfl
  | true =>
    obtain ⟨h1, p, hp, _⟩ := has_true hh
    simp only [if_true, hp, Option.map_some]
    have h0 : (embS p).val = 0 := hz p (List.mem_of_getElem? hp)
    rw [h0]

set_option maxHeartbeats 16000000 in
set_option maxRecDepth 100000 in
theorem setRun_any (kk nn : Int) (ss : List St) (ssl : Value) (w : World) (hO : OrdOK kk nn) (hss : ∀ s ∈ ss, StOK s) (hlen : ss.length ≤ 200) (hwts : wts ss ≤ 20200)
    (hTab : Tab w)
    (hR : RowV w ssl ss.length (sts ss)) :
    Calls Tryz.prog 25 #[keysS, cvS kk nn, ssl] w fun e w' => ∃ v', e = .returned v' ∧ Answers w.heap.size w' v' (runA true true kk nn [[]] ss) ∧ Below w.heap.size w w' := by
  have HCV := Lib.hid (okV hO)
  generalize cvS kk nn = cv at *
  obtain ⟨a, cap, rfl, hcap, hrow⟩ := hR
  have HROW := Lib.hid hrow
  have HSS := Lib.hid hss
  have HWTS := Lib.hid hwts
  have HTAB := Lib.hid hTab
  clear hTab
  have hB := gNew w (.cells #[.func (.func 55) #[] #[], .func (.func 56) #[] #[], .func (.func 58) #[] #[]] 75)
  have hkb := box_news w #[.func (.func 55) #[] #[], .func (.func 56) #[] #[], .func (.func 58) #[] #[]] 75
  have hw1 : (w.alloc (.cells #[.func (.func 55) #[] #[], .func (.func 56) #[] #[], .func (.func 58) #[] #[]] 75)).heap.size = w.heap.size + 1 := alloc_sz _ _
  have HKB := Lib.hid hkb
  have HW1 := Lib.hid hw1
  have HB := Lib.hid hB
  have HNEW : Hid (∀ W, Calls Tryz.prog 44 #[cv, .slice none 0 0] W fun e w' => ∃ p', e = .returned (.agg #[.pointer (some ⟨p', 0, none⟩)]) ∧ Below W.heap.size W w' ∧ Nss.MapAt kk nn w' (Plus (fun _ => False) W w') p' 0 []) := fun W => Nss.setNew kk nn cv HCV.out (fun _ => False) W (fun _ h => h.elim)
  obtain ⟨im, him, hm0, hm1, hm2⟩ := info_parts infoM
  obtain ⟨ia, hia, ha0, ha1, ha2⟩ := info_parts infoN
  obtain ⟨ip, hip, hp0, hp1, hp2⟩ := info_parts infoP
  clear hrow hO hss hB hkb hw1 hwts
  go_enter Tryz.func25, Tryz.ntmps25
  go_upto_region 1 with (fail)
  generalize w.alloc (.cells #[.func (.func 55) #[] #[], .func (.func 56) #[] #[], .func (.func 58) #[] #[]] 75) = wa at *
  go_upto_region 4 with (go_at_call 44; refine (HNEW.out _).mono ?_; rintro e w1 ⟨pm0, rfl, hB1, hM1⟩)
  have hRUN : Run (ma kk nn) 108 (w.heap.size + 1) (w1.alloc (.cells #[.pointer (some ⟨pm0, 0, none⟩)] 108)) (Plus (fun _ => False) wa w1) 0 [[]] (.slice (some ⟨w1.heap.size, 0, none⟩) 1 1) [] (.slice none 0 0) := by
    have hwa := HW1.out
    have hlt : ∀ x, Plus (fun _ => False) wa w1 x → w.heap.size + 1 ≤ x ∧ x < w1.heap.size := fun x hx => by
      rcases hx with h | h
      · exact h.elim
      · exact ⟨by omega, h.2⟩
    have h1 := hB1.size
    refine ⟨fun x hx => by rw [alloc_sz]; have := (hlt x hx).2; omega, fun x hx => (hlt x hx).1, by rw [alloc_sz]; omega, ⟨[pm0], rfl, ?_, ?_⟩, World.ownsRow_nil _ _ _ _, fun _ h => (by cases h), fun k e hx => ?_, fun k e => (by cases e), fun k e e2 => (by cases e2)⟩
    · exact whole_own (tl := []) (by omega) (box_news w1 #[.pointer (some ⟨pm0, 0, none⟩)] 108) rfl (Nat.le_refl _) (by simp [maxLen]) rfl
    · intro j p l hj hl
      cases j with
      | zero =>
        simp only [List.getElem?_cons_zero, Option.some.injEq] at hj hl
        subst hj
        subst hl
        exact hM1.keep (fun _ h => h) fun b hb => (gNew w1 _).block b (hlt b hb).2
      | succ j => simp at hj
    · have e' : k = w1.heap.size := by simpa [Value.ownBlock] using e.symm
      have := (hlt k hx).2
      omega
  have HRUN := Lib.hid hRUN
  have HBB : Hid (Below wa.heap.size wa (w1.alloc (.cells #[.pointer (some ⟨pm0, 0, none⟩)] 108))) := gTrans hB1 (gNew w1 _)
  clear hB1 hM1 hRUN HNEW
  generalize hv7 : Value.slice (some ⟨w1.heap.size, 0, none⟩) 1 1 = v70 at *
  generalize w1.alloc (.cells #[.pointer (some ⟨pm0, 0, none⟩)] 108) = w2 at *
  clear hv7
  go_loopg [7, 8, 25] ss.length (fun g s7 s8 s25 wr => ∃ (i : Nat) (S : Nat → Prop) (ls : List (List (ByteArray × Int))) (outs : List (An × Value)), i + g = ss.length ∧ s25 = .int .i64 i ∧ Run (ma kk nn) 108 (w.heap.size + 1) wr S (wts (ss.take i)) ls s7 outs s8 ∧
    runA true true kk nn [[]] ss = outs.map (·.1) ++ runA true true kk nn (vs ls) (ss.drop i) ∧ Below (w.heap.size + 1) wa wr ∧ 0 < ls.length ∧ ls.length ≤ i + 1 ∧ outs.length ≤ i ∧ ∀ l ∈ ls, l.length ≤ wts (ss.take i) ∧ ∀ x ∈ l, x.2 = 0)
  case atStart => exact ⟨0, _, [[]], [], by omega, rfl, HRUN.out, rfl, HBB.out.mono (by have := HW1.out; omega), Nat.zero_lt_one, Nat.le_refl _, Nat.le_refl _, fun l h => (by simp only [List.mem_cons, List.not_mem_nil, or_false] at h; subst h; exact ⟨Nat.zero_le _, fun _ h => (by cases h)⟩)⟩
  case round =>
    obtain ⟨i, S, ls, outs, hig, rfl, hrun, hA, hB, hl0, hl1, hlo, hll⟩ := hrel
    obtain ⟨wo, rfl⟩ : ∃ wo, wo = wr := ⟨_, rfl⟩
    have hlt' : i < ss.length ∨ i = ss.length := by omega
    rcases hlt' with hlt | rfl
    · obtain ⟨b, o, rfl, hR⟩ := HROW.out (by omega)
      obtain ⟨⟨op, sa, sk, st, sv, sc, sb⟩, hp⟩ : ∃ m, ss[i]? = some m := ⟨_, List.getElem?_eq_getElem hlt⟩
      have hc := hR.st hp
      dsimp only at hc
      obtain ⟨c0, c1, c2, c3, c4, c5, c6⟩ := hc
      have hBw : Below w.heap.size w wo := HB.out.trans (hB.mono (Nat.le_succ _))
      have s0 := gCell hBw c0
      have s1 := gCell hBw c1
      have s2 := gCell hBw c2
      have s3 := gCell hBw c3
      have s4 := gCell hBw c4
      have s5 := gCell hBw c5
      have s6 := gCell hBw c6
      have hok := HSS.out _ (List.mem_of_getElem? hp)
      have HOK := Lib.hid hok
      have HAT : Hid (I64 sa) := hok.at_
      obtain ⟨ps, p1, p2, p3⟩ := hrun.row
      obtain ⟨j, hj, hjl⟩ : ∃ j : Nat, sa % (ls.length : Int) = (j : Int) ∧ j < ls.length := by
        have h1 := Int.emod_nonneg sa (show (ls.length : Int) ≠ 0 by omega)
        have h2 := Int.emod_lt_of_pos sa (show (0 : Int) < ls.length by omega)
        exact ⟨(sa % (ls.length : Int)).toNat, by omega, by omega⟩
      obtain ⟨l, hl⟩ : ∃ l, ls[j]? = some l := ⟨_, List.getElem?_eq_getElem hjl⟩
      obtain ⟨p, hpp⟩ : ∃ p, ps[j]? = some p := ⟨_, List.getElem?_eq_getElem (by omega)⟩
      have HM := Lib.hid (p3 j p l hpp hl)
      have HVER := Lib.hid (verAt_ hj hl)
      have HLL := Lib.hid (hll l (List.mem_of_getElem? hl))
      obtain ⟨g7, cap7, tl7, rfl, hg7, hW7, hc7, hc7', hc7''⟩ := own_whole p2 hl0
      have x7 : wo.cell? ⟨g7, j, none⟩ = some (.pointer (some ⟨p, 0, none⟩)) := hW7.cell (by rw [List.getElem?_append_left (by simp; omega), List.getElem?_map, hpp]; rfl)
      have HATC := Lib.hid (fun W => at_any sa ls.length W hl0 (by omega) HAT.out)
      rw [hj] at HATC
      have hjli : (j : Int) < (ls.length : Int) := by omega
      have hii : (i : Int) < (ss.length : Int) := by omega
      have hb1 := gNew wo (.cells #[.int .u8 op, .int .i64 sa, .int .i64 sk, .string st, .int .i64 sv, .int .i64 sc, .int .i64 sb] 90)
      have x7' := gCell hb1 x7
      have hb3 := gNew3 wo (.cells #[.int .u8 op, .int .i64 sa, .int .i64 sk, .string st, .int .i64 sv, .int .i64 sc, .int .i64 sb] 90) (.cells #[.pointer (some ⟨p, 0, none⟩)] 108) (.cells #[.int .i64 0, .int .i64 0, .bool false, .slice none 0 0] 92)
      have HB3 := Lib.hid hb3
      have HRUN := Lib.hid hrun
      have HA := Lib.hid hA
      have HBR := Lib.hid hB
      have HIG := Lib.hid hig
      have HBND : Hid (0 < ls.length ∧ ls.length ≤ i + 1 ∧ outs.length ≤ i ∧ ∀ l ∈ ls, l.length ≤ wts (ss.take i) ∧ ∀ x ∈ l, x.2 = 0) := ⟨hl0, hl1, hlo, hll⟩
      have HP := Lib.hid hp
      have HWR : Hid (w.heap.size + 1 ≤ wo.heap.size) := hrun.big
      have HWTN := Lib.hid (wts_next hp)
      have HWTL := Lib.hid (wts_le ss (i + 1))
      have hbs := (box_news wo #[.int .u8 op, .int .i64 sa, .int .i64 sk, .string st, .int .i64 sv, .int .i64 sc, .int .i64 sb] 90).grow (gNew2 _ (.cells #[.pointer (some ⟨p, 0, none⟩)] 108) (.cells #[.int .i64 0, .int .i64 0, .bool false, .slice none 0 0] 92))
      have hbm := (box2 wo (.cells #[.int .u8 op, .int .i64 sa, .int .i64 sk, .string st, .int .i64 sv, .int .i64 sc, .int .i64 sb] 90) #[.pointer (some ⟨p, 0, none⟩)] 108).grow (gNew _ (.cells #[.int .i64 0, .int .i64 0, .bool false, .slice none 0 0] 92))
      have hba := box2 (wo.alloc (.cells #[.int .u8 op, .int .i64 sa, .int .i64 sk, .string st, .int .i64 sv, .int .i64 sc, .int .i64 sb] 90)) (.cells #[.pointer (some ⟨p, 0, none⟩)] 108) #[.int .i64 0, .int .i64 0, .bool false, .slice none 0 0] 92
      rw [alloc_sz] at hba
      have HSZB : Hid ((((wo.alloc (.cells #[.int .u8 op, .int .i64 sa, .int .i64 sk, .string st, .int .i64 sv, .int .i64 sc, .int .i64 sb] 90)).alloc (.cells #[.pointer (some ⟨p, 0, none⟩)] 108)).alloc (.cells #[.int .i64 0, .int .i64 0, .bool false, .slice none 0 0] 92)).heap.size = wo.heap.size + 3) := by show _ = _; rw [alloc_sz, alloc_sz, alloc_sz]
      have hkw : Whole wo w.heap.size [.func (.func 55) #[] #[], .func (.func 56) #[] #[], .func (.func 58) #[] #[]] 75 := (hB.block w.heap.size (Nat.lt_succ_self _)).trans HKB.out
      have hkw3 := hkw.grow hb3
      have y0 := hkw3.cell (j := 0) rfl
      have y1 := hkw3.cell (j := 1) rfl
      have y2 := hkw3.cell (j := 2) rfl
      have t0 := hbs.cell (j := 0) rfl
      have t1 := hbs.cell (j := 1) rfl
      have t2 := hbs.cell (j := 2) rfl
      have t3 := hbs.cell (j := 3) rfl
      have t4 := hbs.cell (j := 4) rfl
      have t5 := hbs.cell (j := 5) rfl
      have t6 := hbs.cell (j := 6) rfl
      have m0 := hbm.cell (j := 0) rfl
      have HKW := Lib.hid hkw
      have HBS := Lib.hid hbs
      have HBM := Lib.hid hbm
      have HBA := Lib.hid hba
      have HTABO : Hid (Tab wo) := HTAB.out.grow hBw
      clear hb1 hb3 hrun hA hB hig hp c0 c1 c2 c3 c4 c5 c6 hBw hR hok p1 p2 p3 hj hl hpp hg7 hW7 hc7'' hll x7 hl1 hlo hbs hbm hba hkw hkw3
      go_upto_region 8 with (go_at_call 45; refine (HATC.out _).mono ?_; rintro e wz ⟨rfl, hwz⟩; subst hwz)
      clear s0 s1 s2 s3 s4 s5 s6 x7' HATC
      generalize ((wo.alloc (.cells #[.int .u8 op, .int .i64 sa, .int .i64 sk, .string st, .int .i64 sv, .int .i64 sc, .int .i64 sb] 90)).alloc (.cells #[.pointer (some ⟨p, 0, none⟩)] 108)).alloc (.cells #[.int .i64 0, .int .i64 0, .bool false, .slice none 0 0] 92) = wb at *
      have HSLT : Hid (∀ x, S x → x < wo.heap.size) := HRUN.out.lt
      have HMB : Hid (Nss.MapAt kk nn wb S p (wts (ss.take i)) l) := Nss.MapAt.keep HM.out (fun _ h => h) (fun b hb => HB3.out.block b (HRUN.out.lt b hb))
      have HNN : Hid (wts (ss.take i) + wt ⟨op, sa, sk, st, sv, sc, sb⟩ ≤ 20200) := by have h1 := HWTN.out; have h2 := HWTL.out; have h3 := HWTS.out; show _ ≤ _; omega
      have HLN : Hid (l.length ≤ 20200) := by have h1 := HLL.out.1; have h2 := HNN.out; show _ ≤ _; omega
      have HNW1 : Hid (w.heap.size ≠ wo.heap.size + 1) := by have := HWR.out; show _ ≠ _; omega
      have HNW2 : Hid (wo.heap.size ≠ wo.heap.size + 1) := by show _ ≠ _; omega
      have HNW3 : Hid (w.heap.size ≠ wo.heap.size + 1 + 1) := by have := HWR.out; show _ ≠ _; omega
      have HNW4 : Hid (wo.heap.size ≠ wo.heap.size + 1 + 1) := by show _ ≠ _; omega
      have HNW5 : Hid (wo.heap.size + 1 ≠ wo.heap.size + 1 + 1) := by show _ ≠ _; omega
      have hops : op = 0 ∨ op = 1 ∨ op = 2 ∨ op = 3 ∨ op = 4 ∨ op = 5 ∨ op = 6 := by
        have h1 : 0 ≤ op := HOK.out.lo
        have h2 : op ≤ 6 := HOK.out.hi
        omega
      have HOPS := Lib.hid hops
      clear hops
      go_upto_block 2 with (fail)
      go_cut [] (fun wx => IArm (ma kk nn) embS 108 true kk nn (w.heap.size + 1) ⟨op, sa, sk, st, sv, sc, sb⟩ ls l outs (.slice (some ⟨g7, 0, none⟩) ls.length cap7) u8 (wts (ss.take i)) wo wx)
      case first =>
        rcases HOPS.out with rfl | rfl | rfl | rfl | rfl | rfl | rfl
        · as_aux_lemma =>
            have HSET := Lib.hid (Nss.setAdd kk nn st (by first | exact HOK.out.key | trivial) S wb.drew (fun x hx => by have h1 := HSLT.out x hx; have h2 := HB3.out.size; show x < wb.heap.size; omega) p (wts (ss.take i)) l (Nss.MapAt.keep HMB.out (fun _ h => h) (fun _ _ => rfl)) (by have := HLN.out; omega))
            have HT := Lib.hid ((TurnI.start (emb := embS) (txt := true) (kk := kk) (nn := nn) (put := true) (keys := stepKeys true true ⟨0, sa, sk, st, sv, sc, sb⟩) (N := wts (ss.take i)) HLL.out.1 HLL.out.2).put (k := st) (by rw [keys_one (by show ¬ ((0 : Int) = 5 ∨ (0 : Int) = 6); omega)]; rfl) (hf kk nn st))
            have HN1 : Hid (wt ⟨0, sa, sk, st, sv, sc, sb⟩ = 1) := rfl
            go_upto_region 10 with (fail)
            refine wp_region_still_tail 8 (by kernel_rfl) (by kernel_rfl) ?_
            simp only [List.take_succ_cons, List.take_zero, List.drop_succ_cons, List.drop_zero]
            change wpStill _ _ wb.drew _ _ _
            repeat still_step
            still_call (keyS sk st wb.drew)
            repeat still_step
            refine wpStill_nil ?_
            go_wp2_with (go_at_call 46; refine HSET.out.mono ?_; rintro e w5 ⟨p', rfl, hB5, hM5⟩; have hb5 := gTrans (below_drew (gRefl wb)) hB5; have hW5 := HBM.out.grow hb5; have x0 := hW5.cell (j := 0) rfl; have f0 := hW5.frozen 0; have HB5 := Lib.hid hb5; have HM5 := Lib.hid hM5; have HW5 := Lib.hid hW5; clear hB5 hM5 hW5 hb5)
            go_meet
            obtain ⟨hW6, hU6⟩ := whole_set HW5.out (.pointer (some ⟨p', 0, none⟩)) (i := 0) (by simp)
            have hszb := HSZB.out
            have hs5 := HB5.out.size
            have hs6 := hU6.size
            have hT := HT.out
            refine iarm_new (keeps_ma kk nn) HRUN.out (below_upd (gTrans HB3.out HB5.out) hU6 (by omega)) (by omega) ((HBS.out.grow HB5.out).upd hU6 (by omega)) hW6 ((HBA.out.grow HB5.out).upd hU6 (by omega)) (keep_m (keeps_ma kk nn) HM5.out HSLT.out (by show _ ≤ wb.heap.size; omega) hU6) (by rw [HN1.out]; omega) (by rw [HN1.out]; exact hT.len) hT.zero (by unfold NewV; show (0 : Int) = 0 ∨ (0 : Int) = 1 ∨ _ ∨ _; omega) ?_
            rw [stepNext_put (by show (0 : Int) = _ ∨ _; first | exact .inl rfl | exact .inr rfl), hT.puts rfl]
        · as_aux_lemma =>
            have HSET := Lib.hid (Nss.setDel kk nn st (by first | exact HOK.out.key | trivial) S wb.drew (fun x hx => by have h1 := HSLT.out x hx; have h2 := HB3.out.size; show x < wb.heap.size; omega) p (wts (ss.take i)) l (Nss.MapAt.keep HMB.out (fun _ h => h) (fun _ _ => rfl)) (by have := HLN.out; omega))
            have HT := Lib.hid ((TurnI.start (emb := embS) (txt := true) (kk := kk) (nn := nn) (put := false) (keys := stepKeys true true ⟨1, sa, sk, st, sv, sc, sb⟩) (N := wts (ss.take i)) HLL.out.1 HLL.out.2).drop (k := st) (by rw [keys_one (by show ¬ ((1 : Int) = 5 ∨ (1 : Int) = 6); omega)]; rfl) (hf kk nn st))
            have HN1 : Hid (wt ⟨1, sa, sk, st, sv, sc, sb⟩ = 1) := rfl
            go_upto_region 12 with (fail)
            refine wp_region_still_tail 8 (by kernel_rfl) (by kernel_rfl) ?_
            simp only [List.take_succ_cons, List.take_zero, List.drop_succ_cons, List.drop_zero]
            change wpStill _ _ wb.drew _ _ _
            repeat still_step
            still_call (keyS sk st wb.drew)
            repeat still_step
            refine wpStill_nil ?_
            go_wp2_with (go_at_call 47; refine HSET.out.mono ?_; rintro e w5 ⟨p', rfl, hB5, hM5⟩; have hb5 := gTrans (below_drew (gRefl wb)) hB5; have hW5 := HBM.out.grow hb5; have x0 := hW5.cell (j := 0) rfl; have f0 := hW5.frozen 0; have HB5 := Lib.hid hb5; have HM5 := Lib.hid hM5; have HW5 := Lib.hid hW5; clear hB5 hM5 hW5 hb5)
            go_meet
            obtain ⟨hW6, hU6⟩ := whole_set HW5.out (.pointer (some ⟨p', 0, none⟩)) (i := 0) (by simp)
            have hszb := HSZB.out
            have hs5 := HB5.out.size
            have hs6 := hU6.size
            have hT := HT.out
            refine iarm_new (keeps_ma kk nn) HRUN.out (below_upd (gTrans HB3.out HB5.out) hU6 (by omega)) (by omega) ((HBS.out.grow HB5.out).upd hU6 (by omega)) hW6 ((HBA.out.grow HB5.out).upd hU6 (by omega)) (keep_m (keeps_ma kk nn) HM5.out HSLT.out (by show _ ≤ wb.heap.size; omega) hU6) (by rw [HN1.out]; omega) (by rw [HN1.out]; exact hT.len) hT.zero (by unfold NewV; show (1 : Int) = 0 ∨ (1 : Int) = 1 ∨ _ ∨ _; omega) ?_
            rw [stepNext_drop (by show (1 : Int) = _ ∨ _; first | exact .inl rfl | exact .inr rfl), hT.drops rfl]
        · as_aux_lemma =>
            have HSAY : Hid (stepSays true true kk nn (l.map embS) ⟨2, sa, sk, st, sv, sc, sb⟩ = ⟨0, 0, has (Nss.f kk nn st) l, []⟩) := look_set kk nn st l HLL.out.2 sa sk st sv sc sb rfl
            have HNV : Hid (¬ NewV (2 : Int)) := by unfold NewV; show ¬ ((2 : Int) = 0 ∨ (2 : Int) = 1 ∨ (2 : Int) = 5 ∨ (2 : Int) = 6); omega
            have HHAS := Lib.hid (fun (W : World) (hW : Below wb.heap.size wb W) => Nss.setHas kk nn st (by first | exact HOK.out.key | trivial) S W (fun x hx => by have h1 := HSLT.out x hx; have h2 := HB3.out.size; have h3 := hW.size; omega) p (wts (ss.take i)) l (Nss.MapAt.keep HMB.out (fun _ h => h) (fun b hb => hW.block b (by have h1 := HSLT.out b hb; have h2 := HB3.out.size; omega))))
            generalize has (Nss.f kk nn st) l = hh at *
            go_upto_region 14 with (fail)
            go_region_held3 (fun W : World => W.cell? ⟨w.heap.size, 0, none⟩ = some (.func (.func 55) #[] #[]) ∧ W.cell? ⟨wo.heap.size, 2, none⟩ = some (.int .i64 sk) ∧ W.cell? ⟨wo.heap.size, 3, none⟩ = some (.string st) ∧ W.cell? ⟨wo.heap.size + 1, 0, none⟩ = some (.pointer (some ⟨p, 0, none⟩)))
              (first | exact ⟨y0, t2, t3, m0⟩ | exact K5.out | exact K6.out)
              ((first | (go_at_call 55; refine (keyS sk st _).mono ?_; rintro e w4 ⟨rfl, h4⟩; subst h4) | (go_at_call 48; refine (HHAS.out _ (below_drew (gRefl wb))).mono ?_; rintro e w5 ⟨rfl, hB5⟩; have hb5 := gTrans (below_drew (gRefl wb)) hB5; have hA5 := HBA.out.grow hb5; have x2 := hA5.cell (j := 2) rfl; have f2 := hA5.frozen 2; have hU6 := (whole_set hA5 (.bool hh) (i := 2) (by simp)).2; have K5 := Lib.hid (And.intro (gCell hb5 y0) (And.intro (gCell hb5 t2) (And.intro (gCell hb5 t3) (gCell hb5 m0)))); have K6 := Lib.hid (And.intro (hU6.cell (p := ⟨w.heap.size, 0, none⟩) HNW3.out K5.out.1) (And.intro (hU6.cell (p := ⟨wo.heap.size, 2, none⟩) HNW4.out K5.out.2.1) (And.intro (hU6.cell (p := ⟨wo.heap.size, 3, none⟩) HNW4.out K5.out.2.2.1) (hU6.cell (p := ⟨wo.heap.size + 1, 0, none⟩) HNW5.out K5.out.2.2.2)))); have HB5 := Lib.hid hb5; have HA5 := Lib.hid hA5; clear hB5 hb5 hA5 hU6)))
            all_goals
              go_wp2_with fail
              go_meet
              obtain ⟨hW6, hU6⟩ := whole_set HA5.out (.bool hh) (i := 2) (by simp)
              have hszb := HSZB.out
              have hs5 := HB5.out.size
              have hs6 := hU6.size
              exact iarm_old (keeps_ma kk nn) (an := ⟨0, 0, hh, []⟩) (la := none) (lc := 0) HRUN.out (below_upd (gTrans HB3.out HB5.out) hU6 (by omega)) (by omega) ((HBS.out.grow HB5.out).upd hU6 (by omega)) ((HBM.out.grow HB5.out).upd hU6 (by omega)) hW6 HM.out HLL.out.1 HLL.out.2 ⟨none, 0, rfl, Nat.le_refl _, fun h => absurd h (Nat.lt_irrefl _)⟩ HNV.out HSAY.out
        · as_aux_lemma =>
            have HNV : Hid (¬ NewV (3 : Int)) := by unfold NewV; show ¬ ((3 : Int) = 0 ∨ (3 : Int) = 1 ∨ (3 : Int) = 5 ∨ (3 : Int) = 6); omega
            have HSAY : Hid (stepSays true true kk nn (l.map embS) ⟨3, sa, sk, st, sv, sc, sb⟩ = ⟨0, l.length, false, l.map embS⟩) := by
              show _ = _
              rw [stepSays_list rfl, List.length_map]
            have HLENC := Lib.hid (Nss.setLen kk nn S wb (fun x hx => by have h1 := HSLT.out x hx; have h2 := HB3.out.size; omega) p (wts (ss.take i)) l HMB.out)
            have HL20 : Hid (l.length ≤ 20200 ∧ wts (ss.take i) < 16 ^ 20) := ⟨HLN.out, by have h1 := HNN.out; exact Nat.lt_of_le_of_lt (show wts (ss.take i) ≤ 20200 by omega) (by decide)⟩
            go_upto_region 17 with (go_at_call 49; refine HLENC.out.mono ?_; rintro e w5 ⟨rfl, hB5⟩; have hA5 := HBA.out.grow hB5; have x1 := hA5.cell (j := 1) rfl; have f1 := hA5.frozen 1; have HB5 := Lib.hid hB5; have HA5 := Lib.hid hA5; clear hB5 hA5)
            obtain ⟨hA6, hU6⟩ := whole_set HA5.out (.int .i64 l.length) (i := 1) (by simp)
            have hm6 := (HBM.out.grow HB5.out).upd hU6 (by omega)
            have hs6 := (HBS.out.grow HB5.out).upd hU6 (by omega)
            have hk6 := ((HKW.out.grow HB3.out).grow HB5.out).upd hU6 (HNW3.out)
            have m0 := hm6.cell (j := 0) rfl
            have y2 := hk6.cell (j := 2) rfl
            have hsz6 : wo.heap.size + 3 ≤ (w5.setCell ⟨wo.heap.size + 1 + 1, 1, none⟩ (.int .i64 l.length)).heap.size := by rw [hU6.size]; have h1 := HSZB.out; have h2 := HB5.out.size; omega
            have hbw6 : Below wo.heap.size wo (w5.setCell ⟨wo.heap.size + 1 + 1, 1, none⟩ (.int .i64 l.length)) := below_upd (gTrans HB3.out HB5.out) hU6 (by omega)
            have HA6 : Hid (Whole (w5.setCell ⟨wo.heap.size + 1 + 1, 1, none⟩ (.int .i64 l.length)) (wo.heap.size + 1 + 1) [.int .i64 0, .int .i64 l.length, .bool false, .slice none 0 0] 92) := hA6
            have HMS6 := Lib.hid (And.intro hs6 hm6)
            have HSZ6 := Lib.hid hsz6
            have HBW6 := Lib.hid hbw6
            clear x1 f1 hA6 hU6 hm6 hs6 hk6 hsz6 hbw6 HLENC y0 y1 t0 t1 t2 t3 t4 t5 t6
            generalize w5.setCell ⟨wo.heap.size + 1 + 1, 1, none⟩ (.int .i64 l.length) = w6 at *
            have HM6 := Lib.hid (Nss.MapAt.keep HM.out (fun _ h => h) (fun b hb => HBW6.out.block b (HSLT.out b hb)))
            have HS6 : Hid (∀ x, S x → x < w6.heap.size) := fun x hx => by have h1 := HSLT.out x hx; have h2 := HSZ6.out; omega
            have HIT := Lib.hid (Nss.setItems kk nn S w6 HS6.out p (wts (ss.take i)) HL20.out.2 l (by have := HL20.out.1; omega) HM6.out)
            go_upto_region 18 with (go_at_call 50; refine HIT.out.mono ?_; rintro e w7 ⟨v7, rfl, hB7, ho7⟩; have HIR := Lib.hid (own_rowS ho7 (S := fun b => w6.heap.size ≤ b ∧ b < w7.heap.size) (fun k hk => ho7.lt k hk)); obtain ⟨ia7, ic7, rfl, hic7, hir7⟩ := own_rowV ho7; clear hic7 hir7 ho7; have HB7 := Lib.hid hB7; clear hB7)
            have HROW7 : Hid (0 < l.length → ∃ b o, ia7 = some ⟨b, o, none⟩ ∧ w6.heap.size ≤ b ∧ b < w7.heap.size ∧ Row w7 b o (l.map fun q => Value.string q.1)) := by
              intro h0
              obtain ⟨a', c', he, _, hr⟩ := HIR.out
              injection he with e1 e2 e3
              obtain ⟨b', o', hb', hs', hrow'⟩ := hr h0
              exact ⟨b', o', e1.trans hb', hs'.1, hs'.2, hrow'⟩
            have y2 := gCell HB7.out y2
            have HA7 := Lib.hid (HA6.out.grow HB7.out)
            have HMS7 := Lib.hid (And.intro (HMS6.out.1.grow HB7.out) (HMS6.out.2.grow HB7.out))
            have HSZ7 : Hid (wo.heap.size + 3 ≤ w7.heap.size) := Nat.le_trans HSZ6.out HB7.out.size
            have HBW7 := Lib.hid (gTrans HBW6.out HB7.out)
            have Y2 := Lib.hid y2
            clear y2 m0 HIR HIT
            go_loopg [81] l.length (fun g s81 wr => ∃ (n : Nat) (lv : Value), n + g = l.length ∧ s81 = .int .i64 n ∧ Whole wr (wo.heap.size + 1 + 1) [.int .i64 0, .int .i64 l.length, .bool false, lv] 92 ∧ wr.ownsRow w7.heap.size 59 3 lv n (prs ((l.take n).map embS)) ∧ But w7.heap.size (wo.heap.size + 1 + 1) (wo.heap.size + 1 + 1) w7 wr)
            case atStart => exact ⟨0, .slice none 0 0, by omega, rfl, HA7.out, World.ownsRow_nil _ _ _ _, But.refl _ _ _ _⟩
            case round =>
              obtain ⟨n, lv, hig, rfl, hWl, hown, hbut⟩ := hrel
              obtain ⟨la, lc, hle, _, _⟩ := own_rowV hown
              subst hle
              have hl20 := HL20.out.1
              have hsz7 := HSZ7.out
              have hww := HWR.out
              have hlt' : n < l.length ∨ n = l.length := by omega
              rcases hlt' with hlt | rfl
              · obtain ⟨x, hx⟩ : ∃ x, l[n]? = some x := ⟨_, List.getElem?_eq_getElem hlt⟩
                obtain ⟨ib, io, rfl, hib, hib2, hir⟩ := HROW7.out (by omega)
                have hszz6 := HSZ6.out
                have d0 := hbut.cell (p := ⟨ib, io + n, none⟩) (by show ib < _; omega) (by show ib ≠ _; omega) (by show ib ≠ _; omega) (hir n (Value.string x.1) (by rw [List.getElem?_map, hx]; rfl))
                have y2 := hbut.cell (p := ⟨w.heap.size, 2, none⟩) (by show w.heap.size < _; omega) (by show w.heap.size ≠ _; omega) (by show w.heap.size ≠ _; omega) Y2.out
                have hnl : (n : Int) < (l.length : Int) := by omega
                have HX2 : Hid ((x.1, (0 : Int)) = x) := by
                  have h := HLL.out.2 x (List.mem_of_getElem? hx)
                  show _ = _
                  rw [← h]
                have HTK : Hid (prs ((l.take (n + 1)).map embS) = prs ((l.take n).map embS) ++ [.int .i64 0, .string x.1, .int .i64 0]) := by
                  show _ = _
                  rw [next_of hx, List.map_append]
                  simp only [prs, List.flatMap_append, List.map_cons, List.map_nil, List.flatMap_cons, List.flatMap_nil, List.append_nil]
                  rw [← HX2.out]
                  rfl
                have hlto := hown.lt
                have HNE : Hid (∀ k, (Value.slice la n lc).ownBlock = some k → k ≠ wo.heap.size + 1 + 1) := fun k hk => by have := (hlto k hk).1; omega
                have HNEW : Hid (∀ k, (Value.slice la n lc).ownBlock = some k → k ≠ w.heap.size) := fun k hk => by have := (hlto k hk).1; omega
                have HNEB : Hid (∀ k, (Value.slice la n lc).ownBlock = some k → w7.heap.size ≤ k) := fun k hk => (hlto k hk).1
                have HWL := Lib.hid hWl
                have HOWN := Lib.hid hown
                have HBUT := Lib.hid hbut
                have HIG2 := Lib.hid hig
                have HBS0 : Hid (w7.heap.size ≤ wr.heap.size) := hbut.size
                have HASZ : Hid (wo.heap.size + 1 + 1 < w7.heap.size) := by show _ < _; omega
                clear hWl hown hbut hig hlto hir hx hib hib2 hszz6
                have x3 := HWL.out.cell (j := 3) rfl
                have x3d : wr.drew.cell? ⟨wo.heap.size + 1 + 1, 3, none⟩ = some (.slice la n lc) := x3
                have HONE : Hid (∀ u ∈ ([.int .i64 0, .string x.1, .int .i64 0] : List Value), u.oneCell' = true) := by
                  intro v hv
                  simp only [List.mem_cons, List.not_mem_nil, or_false] at hv
                  rcases hv with rfl | rfl | rfl <;> rfl
                have HMX : Hid (n + 1 ≤ maxLen) := by show _ ≤ _; simp only [maxLen]; omega
                have HBYT : Hid ((n + 1) * 32 ≤ 140737488355328) := by show _ ≤ _; omega
                go_upto_region 20 with (fail)
                have y2d : wr.drew.cell? ⟨w.heap.size, 2, none⟩ = some (.func (.func 58) #[] #[]) := y2
                go_region_law (first | (rw [if_pos (by rfl)]; refine wp_append_moved _ _ 55 rfl w7.heap.size 59 ip _ 3 32 Tryz.underlying55 hip hp0 hp1 hp2 rfl (by omega) _ n (prs ((l.take n).map embS)) (by rfl) HO.out ⟨w10.heap.size, 0, none⟩ 1 1 ([.int .i64 0, .string x.1, .int .i64 0] : List Value) (by rfl) rfl HN.out HONE.out HMX.out HBYT.out HBASE.out ?_; intro v3 w12 hown3 hg3 hm3; obtain ⟨va3, vc3, rfl, hvc3, hvr3⟩ := own_rowV hown3; clear hvc3 hvr3; have hA12 : Whole w12 (wo.heap.size + 1 + 1) [.int .i64 0, .int .i64 l.length, .bool false, .slice la n lc] 92 := (hg3.block (wo.heap.size + 1 + 1) (Nat.lt_of_lt_of_le HASZ.out HBASE.out) (fun e => HNE.out _ e.symm rfl)).trans HA11.out; have x3w := hA12.cell (j := 3) rfl; have f3w := hA12.frozen 3; have HA12 := Lib.hid hA12; have HO3 := Lib.hid hown3; have HG3 := Lib.hid hg3; clear hA12 hown3 hg3 hm3) | (go_simp; go_at_call 58; refine (pair_ x.1 _).mono ?_; rintro e w10 ⟨rfl, hB10⟩; have hb10 : Below wr.heap.size wr w10 := gTrans (below_drew (gRefl wr)) hB10; have hgn := gNew w10 (.cells ([.int .i64 0, .string x.1, .int .i64 0] : List Value).toArray 59); have hb11 := gTrans hb10 hgn; have hA10 := HWL.out.grow hb10; have x310 := hA10.cell (j := 3) rfl; have hA11 := HWL.out.grow hb11; have x311 := hA11.cell (j := 3) rfl; have HN := Lib.hid (news_of (box_news w10 ([.int .i64 0, .string x.1, .int .i64 0] : List Value).toArray 59)); have HO := Lib.hid (HOWN.out.kept (below_by (g := none) hb11) (by cases Value.ownBlock _ <;> simp)); have HBASE := Lib.hid (Nat.le_trans HBS0.out hb11.size); have HB11 := Lib.hid hb11; have HA11 := Lib.hid hA11; clear hB10 hb10 hgn hb11 hA10 hA11))
                all_goals
                  go_wp2
                  go_roundg (gk - 1)
                  case measure => have := HIG2.out; omega
                  case rel =>
                    obtain ⟨hA13, hU13⟩ := whole_set HA12.out (.slice va3 (n + 1) vc3) (i := 3) (by simp)
                    have hb12 : But w7.heap.size (wo.heap.size + 1 + 1) (wo.heap.size + 1 + 1) w7 w12 := (HBUT.out.trans (But.of_below (HB11.out.mono HBS0.out))).trans ⟨HG3.out.os, HG3.out.tape, HG3.out.output, HG3.out.size, fun k hk _ _ => HG3.out.block k (Nat.lt_of_lt_of_le hk HBASE.out) (fun e => by have := HNEB.out k e.symm; omega)⟩
                    refine ⟨n + 1, .slice va3 (n + 1) vc3, by have := HIG2.out; omega, by simp, hA13, ?_, hb12.trans ⟨hU13.by_.os, hU13.by_.tape, hU13.by_.output, by rw [hU13.size]; exact Nat.le_refl _, fun k hk h1 _ => hU13.heap h1⟩⟩
                    rw [HTK.out]
                    exact own_same HO3.out (fun k hk => hU13.heap (fun e => by have h1 := (HO3.out.lt k hk).1; have h2 := HASZ.out; omega))
              · rw [List.take_length] at hown
                have HWL := Lib.hid hWl
                have HOWN := Lib.hid hown
                have HBUT := Lib.hid hbut
                clear hWl hown hbut hig
                go_wp2_with fail
                go_meet
                have hbz := HBUT.out.size
                have hlt := HOWN.out.lt
                have hbw7 := HBW7.out
                have e := HSZ7.out
                have hsame : ∀ b, b < w7.heap.size → b ≠ wo.heap.size + 1 + 1 → wr.heap[b]? = w7.heap[b]? := fun b hb hne => HBUT.out.block b hb hne hne
                exact iarm_old (keeps_ma kk nn) (an := ⟨0, l.length, false, l.map embS⟩) (la := la) (lc := lc) HRUN.out ⟨HBUT.out.os.trans hbw7.os, HBUT.out.tape.trans hbw7.tape, HBUT.out.output.trans hbw7.output, Nat.le_trans hbw7.size hbz, fun b hb => (hsame b (by omega) (by omega)).trans (hbw7.block b hb)⟩ (by omega) ((hsame _ (by omega) (by omega)).trans HMS7.out.1) ((hsame _ (by omega) (by omega)).trans HMS7.out.2)
                  (by rw [List.length_map]; exact HWL.out) HM.out HLL.out.1 HLL.out.2 (by rw [List.length_map]; exact own_rowS HOWN.out (fun k hk => ⟨by have := (hlt k hk).1; omega, (hlt k hk).2⟩)) HNV.out HSAY.out
        · as_aux_lemma =>
            have HNV : Hid (¬ NewV (4 : Int)) := by unfold NewV; show ¬ ((4 : Int) = 0 ∨ (4 : Int) = 1 ∨ (4 : Int) = 5 ∨ (4 : Int) = 6); omega
            have HSAY : Hid (stepSays true true kk nn (l.map embS) ⟨4, sa, sk, st, sv, sc, sb⟩ = ⟨0, l.length, false, l.reverse.map embS⟩) := by
              show _ = _
              rw [stepSays_back rfl, List.length_map, List.map_reverse]
            have HLENC := Lib.hid (Nss.setLen kk nn S wb (fun x hx => by have h1 := HSLT.out x hx; have h2 := HB3.out.size; omega) p (wts (ss.take i)) l HMB.out)
            have HL20 : Hid (l.length ≤ 20200 ∧ wts (ss.take i) < 16 ^ 20) := ⟨HLN.out, by have h1 := HNN.out; exact Nat.lt_of_le_of_lt (show wts (ss.take i) ≤ 20200 by omega) (by decide)⟩
            go_upto_region 24 with (go_at_call 49; refine HLENC.out.mono ?_; rintro e w5 ⟨rfl, hB5⟩; have hA5 := HBA.out.grow hB5; have x1 := hA5.cell (j := 1) rfl; have f1 := hA5.frozen 1; have HB5 := Lib.hid hB5; have HA5 := Lib.hid hA5; clear hB5 hA5)
            obtain ⟨hA6, hU6⟩ := whole_set HA5.out (.int .i64 l.length) (i := 1) (by simp)
            have hm6 := (HBM.out.grow HB5.out).upd hU6 (by omega)
            have hs6 := (HBS.out.grow HB5.out).upd hU6 (by omega)
            have hk6 := ((HKW.out.grow HB3.out).grow HB5.out).upd hU6 (HNW3.out)
            have m0 := hm6.cell (j := 0) rfl
            have y2 := hk6.cell (j := 2) rfl
            have hsz6 : wo.heap.size + 3 ≤ (w5.setCell ⟨wo.heap.size + 1 + 1, 1, none⟩ (.int .i64 l.length)).heap.size := by rw [hU6.size]; have h1 := HSZB.out; have h2 := HB5.out.size; omega
            have hbw6 : Below wo.heap.size wo (w5.setCell ⟨wo.heap.size + 1 + 1, 1, none⟩ (.int .i64 l.length)) := below_upd (gTrans HB3.out HB5.out) hU6 (by omega)
            have HA6 : Hid (Whole (w5.setCell ⟨wo.heap.size + 1 + 1, 1, none⟩ (.int .i64 l.length)) (wo.heap.size + 1 + 1) [.int .i64 0, .int .i64 l.length, .bool false, .slice none 0 0] 92) := hA6
            have HMS6 := Lib.hid (And.intro hs6 hm6)
            have HSZ6 := Lib.hid hsz6
            have HBW6 := Lib.hid hbw6
            clear x1 f1 hA6 hU6 hm6 hs6 hk6 hsz6 hbw6 HLENC y0 y1 t0 t1 t2 t3 t4 t5 t6
            generalize w5.setCell ⟨wo.heap.size + 1 + 1, 1, none⟩ (.int .i64 l.length) = w6 at *
            have HM6 := Lib.hid (Nss.MapAt.keep HM.out (fun _ h => h) (fun b hb => HBW6.out.block b (HSLT.out b hb)))
            have HS6 : Hid (∀ x, S x → x < w6.heap.size) := fun x hx => by have h1 := HSLT.out x hx; have h2 := HSZ6.out; omega
            have HIT := Lib.hid (Nss.setIter kk nn S w6 HS6.out p (wts (ss.take i)) HL20.out.2 l HM6.out)
            go_upto_region 25 with (go_at_call 51; refine HIT.out.mono ?_; rintro e w7 ⟨si, it, rfl, hB7, hsi, hit, hne, hsl, qsi, hIt⟩; have HB7 := Lib.hid hB7; clear hB7)
            have hitl := hIt.lt
            have hS7 : ∀ x, S x → x < w7.heap.size := fun x hx => Nat.lt_of_lt_of_le (HS6.out x hx) HB7.out.size
            have HLAST := Lib.hid (Nss.siLast kk nn S w7 hS7 si it p (wts (ss.take i)) HL20.out.2 l _ qsi hIt)
            have HSI : Hid (w6.heap.size ≤ si ∧ w6.heap.size ≤ it ∧ si ≠ it ∧ si < w7.heap.size ∧ it < w7.heap.size) := ⟨hsi, hit, hne, hsl, hitl⟩
            have HQSI := Lib.hid qsi
            clear hS7 hitl hsi hit hne hsl qsi hIt HIT m0
            go_upto_region 26 with (go_at_call 52; refine HLAST.out.mono ?_; rintro e w8 ⟨rfl, hg8, hi8⟩; have HG8 := Lib.hid hg8; have HI8 := Lib.hid hi8; clear hg8 hi8)
            obtain ⟨j1, j2, j3, j4, j5⟩ := HSI.out
            have hszz6 := HSZ6.out
            have hww0 := HWR.out
            have hs78 := HG8.out.size
            have hsame8 : ∀ b, b < w6.heap.size → w8.heap[b]? = w6.heap[b]? := fun b hb => (HG8.out.block b (by have := HB7.out.size; omega) (by intro e; injection e with e; omega)).trans (HB7.out.block b hb)
            have HA8 : Hid (Whole w8 (wo.heap.size + 1 + 1) [.int .i64 0, .int .i64 l.length, .bool false, .slice none 0 0] 92) := (hsame8 _ (by omega)).trans HA6.out
            have HMS8 : Hid (Whole w8 wo.heap.size [.int .u8 4, .int .i64 sa, .int .i64 sk, .string st, .int .i64 sv, .int .i64 sc, .int .i64 sb] 90 ∧ Whole w8 (wo.heap.size + 1) [.pointer (some ⟨p, 0, none⟩)] 108) := ⟨(hsame8 _ (by omega)).trans HMS6.out.1, (hsame8 _ (by omega)).trans HMS6.out.2⟩
            have HQ8 : Hid (w8.cell? ⟨si, 0, none⟩ = some (.pointer (some ⟨it, 0, none⟩))) := HG8.out.cell HQSI.out (by intro e; injection e with e; exact j3 e)
            have HSZ8 : Hid (wo.heap.size + 3 ≤ w8.heap.size) := by show _ ≤ _; have := HB7.out.size; omega
            have HBW8 : Hid (Below wo.heap.size wo w8) := (gTrans HBW6.out HB7.out).grown HG8.out (by have := HBW6.out.size; have := HB7.out.size; omega) (fun k hk => by injection hk with hk; omega)
            have Y2 : Hid (w8.cell? ⟨w.heap.size, 2, none⟩ = some (.func (.func 58) #[] #[])) := cell_block (hsame8 w.heap.size (by omega)) y2
            have HS8 : Hid (∀ x, S x → x < w8.heap.size) := fun x hx => by have := HS6.out x hx; have := HB7.out.size; omega
            have HIT8 : Hid (si < w8.heap.size ∧ it < w8.heap.size) := ⟨by omega, by omega⟩
            clear y2 j1 j2 j3 j4 j5 hszz6 hww0 hs78 hsame8 HLAST
            go_loopg [] l.length (fun g wr => ∃ (n : Nat) (lv : Value), n + g = l.length ∧ Whole wr (wo.heap.size + 1 + 1) [.int .i64 0, .int .i64 l.length, .bool false, lv] 92 ∧ wr.ownsRow w8.heap.size 59 3 lv n (prs ((l.reverse.take n).map embS)) ∧ Nss.ItAt kk nn wr S it p (wts (ss.take i)) l ((l.length : Int) - 1 - (n : Int)) ∧ But w8.heap.size (wo.heap.size + 1 + 1) it w8 wr ∧ wr.cell? ⟨si, 0, none⟩ = some (.pointer (some ⟨it, 0, none⟩)))
            case atStart => exact ⟨0, .slice none 0 0, by omega, HA8.out, World.ownsRow_nil _ _ _ _, by have h := HI8.out; simpa using h, But.refl _ _ _ _, HQ8.out⟩
            case round =>
              obtain ⟨n, lv, hig, hWl, hown, hi, hbut, qs⟩ := hrel
              obtain ⟨la, lc, hle, _, _⟩ := own_rowV hown
              subst hle
              have hl20 := HL20.out.1
              have hsz8 := HSZ8.out
              have hww := HWR.out
              have hSr : ∀ x, S x → x < wr.heap.size := fun x hx => Nat.lt_of_lt_of_le (HS8.out x hx) hbut.size
              have HD := Lib.hid (Nss.siDone kk nn S wr si it p (wts (ss.take i)) l _ qs hi)
              have hlt' : n < l.length ∨ n = l.length := by omega
              rcases hlt' with hlt | rfl
              · obtain ⟨j', hj'⟩ : ∃ j', j' + n + 1 = l.length := ⟨l.length - n - 1, by omega⟩
                obtain ⟨x, hx⟩ : ∃ x, l[j']? = some x := ⟨_, List.getElem?_eq_getElem (by omega)⟩
                have hjj : (l.length : Int) - 1 - (n : Int) = (j' : Int) := by omega
                rw [hjj] at hi HD
                have hd : decide ((j' : Int) < 0) = false := by simp
                rw [hd] at HD
                have HN9 := Lib.hid (Nss.siPrev_at kk nn S wr hSr si it p (wts (ss.take i)) l j' x hx qs hi)
                have HX2 : Hid ((x.1, (0 : Int)) = x) := by
                  have h := HLL.out.2 x (List.mem_of_getElem? hx)
                  show _ = _
                  rw [← h]
                have HTK : Hid (prs ((l.reverse.take (n + 1)).map embS) = prs ((l.reverse.take n).map embS) ++ [.int .i64 0, .string x.1, .int .i64 0]) := by
                  show _ = _
                  rw [next_of (l := l.reverse) (x := x) (by rw [List.getElem?_reverse (by omega), show l.length - 1 - n = j' by omega]; exact hx), List.map_append]
                  simp only [prs, List.flatMap_append, List.map_cons, List.map_nil, List.flatMap_cons, List.flatMap_nil, List.append_nil]
                  rw [← HX2.out]
                  rfl
                have HJJ : Hid ((l.length : Int) - 1 - ((n + 1 : Nat) : Int) = (j' : Int) - 1) := by show _ = _; omega
                have hlto := hown.lt
                have hits := HIT8.out
                obtain ⟨j1, j2, j3, j4, j5⟩ := HSI.out
                have hz6 := HSZ6.out
                have HNE : Hid (∀ k, (Value.slice la n lc).ownBlock = some k → k ≠ wo.heap.size + 1 + 1) := fun k hk => by have := (hlto k hk).1; omega
                have HNEW : Hid (∀ k, (Value.slice la n lc).ownBlock = some k → k ≠ w.heap.size) := fun k hk => by have := (hlto k hk).1; omega
                have HNEB : Hid (∀ k, (Value.slice la n lc).ownBlock = some k → w8.heap.size ≤ k) := fun k hk => (hlto k hk).1
                have HIA : Hid (it ≠ wo.heap.size + 1 + 1 ∧ si ≠ wo.heap.size + 1 + 1 ∧ w.heap.size ≠ it) := ⟨by omega, by omega, by omega⟩
                have y2 := hbut.cell (p := ⟨w.heap.size, 2, none⟩) (by show w.heap.size < _; omega) (by show w.heap.size ≠ _; omega) (by show w.heap.size ≠ _; omega) Y2.out
                have HWLr := Lib.hid hWl
                have HOWNr := Lib.hid hown
                have HBUTr := Lib.hid hbut
                have HIG2 := Lib.hid hig
                have HQS := Lib.hid qs
                have HASZ : Hid (wo.heap.size + 1 + 1 < w8.heap.size) := by show _ < _; omega
                clear hWl hown hbut hig hlto hx hd hjj hi qs j1 j2 j3 j4 j5 hz6 hits hSr
                go_upto_region 28 with (first | (go_at_call 53; refine HD.out.mono ?_; rintro e w4 ⟨rfl, h4⟩; subst h4) | (go_at_call 54; refine HN9.out.mono ?_; rintro e w9 ⟨rfl, hg9, hi9⟩; have HG9 := Lib.hid hg9; have HI9 := Lib.hid hi9; clear hg9 hi9))
                have y2 := HG9.out.cell y2 (by intro e; injection e with e; exact HIA.out.2.2 e)
                have HWL : Hid (Whole w9 (wo.heap.size + 1 + 1) [.int .i64 0, .int .i64 l.length, .bool false, .slice la n lc] 92) := (HG9.out.block _ HWLr.out.lt (by intro e; injection e with e; exact HIA.out.1 e.symm)).trans HWLr.out
                have HOWN : Hid (w9.ownsRow w8.heap.size 59 3 (.slice la n lc) n (prs ((l.reverse.take n).map embS))) := own_same HOWNr.out (fun k hk => HG9.out.block k (HOWNr.out.lt k hk).2 (by intro e; injection e with e; have h1 := HNEB.out k hk; have h2 := HIT8.out.2; omega))
                have HBUT := Lib.hid (HBUTr.out.trans (But.of_right HG9.out HBUTr.out.size))
                have HQS9 : Hid (w9.cell? ⟨si, 0, none⟩ = some (.pointer (some ⟨it, 0, none⟩))) := HG9.out.cell HQS.out (by intro e; injection e with e; exact HSI.out.2.2.1 e)
                have HBS0 : Hid (w8.heap.size ≤ w9.heap.size) := HBUT.out.size
                clear HWLr HOWNr HBUTr HN9 HD
                have x3 := HWL.out.cell (j := 3) rfl
                have x3d : w9.drew.cell? ⟨wo.heap.size + 1 + 1, 3, none⟩ = some (.slice la n lc) := x3
                have HONE : Hid (∀ u ∈ ([.int .i64 0, .string x.1, .int .i64 0] : List Value), u.oneCell' = true) := by
                  intro v hv
                  simp only [List.mem_cons, List.not_mem_nil, or_false] at hv
                  rcases hv with rfl | rfl | rfl <;> rfl
                have HMX : Hid (n + 1 ≤ maxLen) := by show _ ≤ _; simp only [maxLen]; omega
                have HBYT : Hid ((n + 1) * 32 ≤ 140737488355328) := by show _ ≤ _; omega
                go_upto_region 28 with (fail)
                have y2d : w9.drew.cell? ⟨w.heap.size, 2, none⟩ = some (.func (.func 58) #[] #[]) := y2
                go_region_law (first | (rw [if_pos (by rfl)]; refine wp_append_moved _ _ 55 rfl w8.heap.size 59 ip _ 3 32 Tryz.underlying55 hip hp0 hp1 hp2 rfl (by omega) _ n (prs ((l.reverse.take n).map embS)) (by rfl) HO.out ⟨w10.heap.size, 0, none⟩ 1 1 ([.int .i64 0, .string x.1, .int .i64 0] : List Value) (by rfl) rfl HN.out HONE.out HMX.out HBYT.out HBASE.out ?_; intro v3 w12 hown3 hg3 hm3; obtain ⟨va3, vc3, rfl, hvc3, hvr3⟩ := own_rowV hown3; clear hvc3 hvr3; have hA12 : Whole w12 (wo.heap.size + 1 + 1) [.int .i64 0, .int .i64 l.length, .bool false, .slice la n lc] 92 := (hg3.block (wo.heap.size + 1 + 1) (Nat.lt_of_lt_of_le HASZ.out HBASE.out) (fun e => HNE.out _ e.symm rfl)).trans HA11.out; have x3w := hA12.cell (j := 3) rfl; have f3w := hA12.frozen 3; have HA12 := Lib.hid hA12; have HO3 := Lib.hid hown3; have HG3 := Lib.hid hg3; clear hA12 hown3 hg3 hm3) | (go_simp; go_at_call 58; refine (pair_ x.1 _).mono ?_; rintro e w10 ⟨rfl, hB10⟩; have hb10 : Below w9.heap.size w9 w10 := gTrans (below_drew (gRefl w9)) hB10; have hgn := gNew w10 (.cells ([.int .i64 0, .string x.1, .int .i64 0] : List Value).toArray 59); have hb11 := gTrans hb10 hgn; have hA10 := HWL.out.grow hb10; have x310 := hA10.cell (j := 3) rfl; have hA11 := HWL.out.grow hb11; have x311 := hA11.cell (j := 3) rfl; have HN := Lib.hid (news_of (box_news w10 ([.int .i64 0, .string x.1, .int .i64 0] : List Value).toArray 59)); have HO := Lib.hid (HOWN.out.kept (below_by (g := none) hb11) (by cases Value.ownBlock _ <;> simp)); have HBASE := Lib.hid (Nat.le_trans HBS0.out hb11.size); have HB11 := Lib.hid hb11; have HA11 := Lib.hid hA11; clear hB10 hb10 hgn hb11 hA10 hA11))
                all_goals
                  go_wp2
                  go_roundg (gk - 1)
                  case measure => have := HIG2.out; omega
                  case rel =>
                    obtain ⟨hA13, hU13⟩ := whole_set HA12.out (.slice va3 (n + 1) vc3) (i := 3) (by simp)
                    have hsm : ∀ k, k < w8.heap.size → k ≠ wo.heap.size + 1 + 1 → (w12.setCell ⟨wo.heap.size + 1 + 1, 3, none⟩ (.slice va3 (n + 1) vc3)).heap[k]? = w9.heap[k]? := fun k hk h1 =>
                      (hU13.heap h1).trans ((HG3.out.block k (Nat.lt_of_lt_of_le hk HBASE.out) (fun e => by have := HNEB.out k e.symm; omega)).trans (HB11.out.block k (Nat.lt_of_lt_of_le hk HBS0.out)))
                    have hb12 : But w8.heap.size (wo.heap.size + 1 + 1) it w8 w12 := (HBUT.out.trans (But.of_below (HB11.out.mono HBS0.out))).trans ⟨HG3.out.os, HG3.out.tape, HG3.out.output, HG3.out.size, fun k hk _ _ => HG3.out.block k (Nat.lt_of_lt_of_le hk HBASE.out) (fun e => by have := HNEB.out k e.symm; omega)⟩
                    refine ⟨n + 1, .slice va3 (n + 1) vc3, by have := HIG2.out; omega, hA13, ?_, ?_, hb12.trans ⟨hU13.by_.os, hU13.by_.tape, hU13.by_.output, by rw [hU13.size]; exact Nat.le_refl _, fun k hk h1 _ => hU13.heap h1⟩, cell_block (hsm si HIT8.out.1 HIA.out.2.1) HQS9.out⟩
                    · rw [HTK.out]
                      exact own_same HO3.out (fun k hk => hU13.heap (fun e => by have h1 := (HO3.out.lt k hk).1; have h2 := HASZ.out; omega))
                    · rw [HJJ.out]
                      exact HI9.out.keep (fun b hb => hsm b (HS8.out b hb) (by have := HSLT.out b hb; omega)) (hsm it HIT8.out.2 HIA.out.1)
              · have hre : l.reverse.take l.length = l.reverse := by rw [← List.length_reverse, List.take_length]
                rw [hre] at hown
                have hd : decide ((l.length : Int) - 1 - (l.length : Int) < 0) = true := by simp; omega
                rw [hd] at HD
                have HWL := Lib.hid hWl
                have HOWN := Lib.hid hown
                have HBUT := Lib.hid hbut
                clear hWl hown hbut hig hre hd hi qs hSr
                go_wp2_with (go_at_call 53; refine HD.out.mono ?_; rintro e w4 ⟨rfl, h4⟩; subst h4)
                go_meet
                have hbz := HBUT.out.size
                have hlt := HOWN.out.lt
                have hbw8 := HBW8.out
                have e := HSZ8.out
                obtain ⟨j1, j2, j3, j4, j5⟩ := HSI.out
                have hz6 := HSZ6.out
                have hsame : ∀ b, b < wo.heap.size + 1 + 1 → w4.heap[b]? = w8.heap[b]? := fun b hb => HBUT.out.block b (by omega) (by omega) (by omega)
                exact iarm_old (keeps_ma kk nn) (an := ⟨0, l.length, false, l.reverse.map embS⟩) (la := la) (lc := lc) HRUN.out ⟨HBUT.out.os.trans hbw8.os, HBUT.out.tape.trans hbw8.tape, HBUT.out.output.trans hbw8.output, Nat.le_trans hbw8.size hbz, fun b hb => (hsame b (by omega)).trans (hbw8.block b hb)⟩ (by omega) ((hsame _ (by omega)).trans HMS8.out.1) ((hsame _ (by omega)).trans HMS8.out.2)
                  (by rw [List.length_map, List.length_reverse]; exact HWL.out) HM.out HLL.out.1 HLL.out.2 (by rw [List.length_map, List.length_reverse]; exact own_rowS HOWN.out (fun k hk => ⟨by have := (hlt k hk).1; omega, (hlt k hk).2⟩)) HNV.out HSAY.out
        · as_aux_lemma =>
            obtain ⟨c, rfl⟩ : ∃ c : Nat, sc = (c : Int) := ⟨sc.toNat, by have h : 0 ≤ sc := HOK.out.cl; omega⟩
            have hc3 : c ≤ 3000 := by have h : (c : Int) ≤ 3000 := HOK.out.ch; omega
            have HWT : Hid (wt ⟨5, sa, sk, st, sv, c, sb⟩ = c) := by show _ = _; rw [wt_many (.inl rfl)]; exact Int.toNat_natCast c
            have HKAT : Hid (∀ n : Nat, n < c → (stepKeys true true ⟨5, sa, sk, st, sv, c, sb⟩)[n]? = some (embS (mkS ⟨5, sa, sk, st, sv, c, sb⟩ n, 0))) := fun n hn => keys_at (.inl rfl) (by show n < (c : Int).toNat; rw [Int.toNat_natCast]; exact hn)
            have HKL : Hid ((stepKeys true true ⟨5, sa, sk, st, sv, c, sb⟩).length = c) := len_keys.trans HWT.out
            have HT0 : Hid (TurnI embS true kk nn true (stepKeys true true ⟨5, sa, sk, st, sv, c, sb⟩) (l.map embS) (wts (ss.take i)) 0 l) := TurnI.start HLL.out.1 HLL.out.2
            have HNX : Hid (stepNext true true kk nn (l.map embS) ⟨5, sa, sk, st, sv, c, sb⟩ = some (putAll true kk nn (stepKeys true true ⟨5, sa, sk, st, sv, c, sb⟩) (l.map embS))) := stepNext_put (.inr rfl)
            have HMK : Hid (∀ n : Nat, WfS (mkS ⟨5, sa, sk, st, sv, c, sb⟩ n)) := fun n => by first | exact mkI_64 _ _ | trivial
            have HMANY : Hid (∀ (n : Nat) (W : World), n ≤ 3000 → Below wo.heap.size wo W → Calls Tryz.prog 56 #[.agg #[.int .u8 5, .int .i64 sa, .int .i64 sk, .string st, .int .i64 sv, .int .i64 c, .int .i64 sb], .int .i64 n] W fun e w' => e = .returned (Value.string (mkS ⟨5, sa, sk, st, sv, c, sb⟩ n)) ∧ Below W.heap.size W w') := fun n W hn hW =>
              manyS ⟨5, sa, sk, st, sv, c, sb⟩ n W hn (HTABO.out.grow hW) HOK.out.text
            generalize mkS ⟨5, sa, sk, st, sv, c, sb⟩ = mk at *
            generalize stepKeys true true ⟨5, sa, sk, st, sv, c, sb⟩ = KS at *
            go_upto_region 31 with (fail)
            go_loopg [18] c (fun g s18 wr => ∃ (n pn : Nat) (m : List (ByteArray × Int)), n + g = c ∧ s18 = .int .i64 n ∧ Whole wr wo.heap.size [.int .u8 5, .int .i64 sa, .int .i64 sk, .string st, .int .i64 sv, .int .i64 c, .int .i64 sb] 90 ∧ Whole wr (wo.heap.size + 1) [.pointer (some ⟨pn, 0, none⟩)] 108 ∧ Whole wr (wo.heap.size + 1 + 1) [.int .i64 0, .int .i64 0, .bool false, .slice none 0 0] 92 ∧
              Below wo.heap.size wo wr ∧ wo.heap.size + 3 ≤ wr.heap.size ∧ Nss.MapAt kk nn wr (Since S (wo.heap.size + 3) wr) pn (wts (ss.take i) + n) m ∧ TurnI embS true kk nn true KS (l.map embS) (wts (ss.take i)) n m)
            case atStart => exact ⟨0, p, l, by omega, rfl, HBS.out, HBM.out, HBA.out, HB3.out, Nat.le_of_eq HSZB.out.symm, Nss.MapAt.keep HMB.out (fun _ h => .inl h) (fun _ _ => rfl), HT0.out⟩
            case round =>
              obtain ⟨n, pn, m, hig, rfl, hws, hwm, hwa, hbw, hsz, hmm, htn⟩ := hrel
              have HLNN := HLN.out
              have HMLEN : Hid (m.length ≤ 20200) := by have h1 := htn.len; have h2 := HNN.out; have h3 := HWT.out; show _ ≤ _; omega
              have t0 := hws.cell (j := 0) rfl
              have t1 := hws.cell (j := 1) rfl
              have t2 := hws.cell (j := 2) rfl
              have t3 := hws.cell (j := 3) rfl
              have t4 := hws.cell (j := 4) rfl
              have t5 := hws.cell (j := 5) rfl
              have t6 := hws.cell (j := 6) rfl
              have hlt' : n < c ∨ n = c := by omega
              rcases hlt' with hlt | rfl
              · have hnc : (n : Int) < (c : Int) := by omega
                have hwn : IntKind.i64.wrap ((n : Int) + 1) = (n : Int) + 1 := IntWalk.i64_in _ (by omega)
                have hkw := HKW.out.grow hbw
                have y1 := hkw.cell (j := 1) rfl
                have m0 := hwm.cell (j := 0) rfl
                have m0d : wr.drew.cell? ⟨wo.heap.size + 1, 0, none⟩ = some (.pointer (some ⟨pn, 0, none⟩)) := m0
                have HN3 : Hid (n ≤ 3000) := by show _ ≤ _; omega
                have HWSM := Lib.hid (And.intro hws (And.intro hwm hwa))
                have HBW := Lib.hid hbw
                have HSZ := Lib.hid hsz
                have HMM := Lib.hid hmm
                have HTN := Lib.hid htn
                have HIG2 := Lib.hid hig
                have HLT2 := Lib.hid hlt
                have HSI : Hid (∀ x, Since S (wo.heap.size + 3) wr x → x < wr.heap.size) := fun x hx => by
                  rcases hx with h | h
                  · have := HSLT.out x h; omega
                  · exact h.2
                clear hws hwm hwa hbw hsz hmm htn hig hlt hkw
                go_upto_region 33 with (fail)
                have y1d : wr.drew.cell? ⟨w.heap.size, 1, none⟩ = some (.func (.func 56) #[] #[]) := y1
                have t0d : wr.drew.cell? ⟨wo.heap.size, 0, none⟩ = some (.int .u8 5) := t0
                have t1d : wr.drew.cell? ⟨wo.heap.size, 1, none⟩ = some (.int .i64 sa) := t1
                have t2d : wr.drew.cell? ⟨wo.heap.size, 2, none⟩ = some (.int .i64 sk) := t2
                have t3d : wr.drew.cell? ⟨wo.heap.size, 3, none⟩ = some (.string st) := t3
                have t4d : wr.drew.cell? ⟨wo.heap.size, 4, none⟩ = some (.int .i64 sv) := t4
                have t5d : wr.drew.cell? ⟨wo.heap.size, 5, none⟩ = some (.int .i64 c) := t5
                have t6d : wr.drew.cell? ⟨wo.heap.size, 6, none⟩ = some (.int .i64 sb) := t6
                go_region_law ((go_simp; first | (go_at_call 56; refine (HMANY.out n _ HN3.out (below_drew HBW.out)).mono ?_; rintro e w5 ⟨rfl, hB5⟩; have hb5 := gTrans (below_drew (gRefl wr)) hB5; have m5 := gCell hb5 m0; have HB5 := Lib.hid hb5; have HADD := Lib.hid (Nss.setAdd kk nn (mk n) (HMK.out n) (Since S (wo.heap.size + 3) wr) w5 (fun x hx => Nat.lt_of_lt_of_le (HSI.out x hx) HB5.out.size) pn (wts (ss.take i) + n) m (Nss.MapAt.keep HMM.out (fun _ h => h) (fun b hb => HB5.out.block b (HSI.out b hb))) (by have := HMLEN.out; omega)); clear hB5 hb5) | (go_at_call 46; refine HADD.out.mono ?_; rintro e w6 ⟨p6, rfl, hB6, hM6⟩; have hb6 := gTrans HB5.out hB6; have hW6 := HWSM.out.2.1.grow hb6; have x0 := hW6.cell (j := 0) rfl; have f0 := hW6.frozen 0; have HB6 := Lib.hid hb6; have HM6 : Hid (Nss.MapAt kk nn w6 (Plus (Since S (wo.heap.size + 3) wr) w5 w6) p6 (wts (ss.take i) + n + 1) _) := hM6; have HW6 := Lib.hid hW6; clear hB6 hM6 hb6 hW6)))
                all_goals
                  go_wp2
                  go_roundg (gk - 1)
                  case measure => have := HIG2.out; omega
                  case rel =>
                    obtain ⟨hW7, hU7⟩ := whole_set HW6.out (.pointer (some ⟨p6, 0, none⟩)) (i := 0) (by simp)
                    have hs6 := HB6.out.size
                    have hs5 := HB5.out.size
                    have hs7 := hU7.size
                    have hsz := HSZ.out
                    refine ⟨n + 1, p6, _, by have := HIG2.out; omega, by simp, (HWSM.out.1.grow HB6.out).upd hU7 (by omega), hW7, (HWSM.out.2.2.grow HB6.out).upd hU7 (by omega), below_upd (gTrans HBW.out HB6.out) hU7 (by omega), by omega, Nss.MapAt.keep HM6.out (fun b hb => ?_) (fun b hb => hU7.heap ?_), HTN.out.put (HKAT.out n HLT2.out) (hf kk nn (mk n))⟩
                    · rcases hb with (h | h) | h
                      · exact .inl h
                      · exact .inr ⟨h.1, by omega⟩
                      · exact .inr ⟨by omega, by rw [hU7.size]; exact h.2⟩
                    · rcases hb with (h | h) | h
                      · have := HSLT.out b h; omega
                      · omega
                      · omega
              · have HWSM := Lib.hid (And.intro hws (And.intro hwm hwa))
                have HBW := Lib.hid hbw
                have HSZ := Lib.hid hsz
                have HMM := Lib.hid hmm
                have HTN := Lib.hid htn
                clear hws hwm hwa hbw hsz hmm htn hig
                go_wp2_with fail
                go_meet
                have hT := HTN.out
                refine iarm_new (keeps_ma kk nn) HRUN.out HBW.out HSZ.out HWSM.out.1 HWSM.out.2.1 HWSM.out.2.2 HMM.out (by rw [HWT.out]; exact Nat.le_refl _) (by rw [HWT.out]; exact hT.len) hT.zero (.inr (.inr (.inl rfl))) ?_
                rw [HNX.out, hT.puts HKL.out.symm]
        · as_aux_lemma =>
            obtain ⟨c, rfl⟩ : ∃ c : Nat, sc = (c : Int) := ⟨sc.toNat, by have h : 0 ≤ sc := HOK.out.cl; omega⟩
            have hc3 : c ≤ 3000 := by have h : (c : Int) ≤ 3000 := HOK.out.ch; omega
            have HWT : Hid (wt ⟨6, sa, sk, st, sv, c, sb⟩ = c) := by show _ = _; rw [wt_many (.inr rfl)]; exact Int.toNat_natCast c
            have HKAT : Hid (∀ n : Nat, n < c → (stepKeys true true ⟨6, sa, sk, st, sv, c, sb⟩)[n]? = some (embS (mkS ⟨6, sa, sk, st, sv, c, sb⟩ n, 0))) := fun n hn => keys_at (.inr rfl) (by show n < (c : Int).toNat; rw [Int.toNat_natCast]; exact hn)
            have HKL : Hid ((stepKeys true true ⟨6, sa, sk, st, sv, c, sb⟩).length = c) := len_keys.trans HWT.out
            have HT0 : Hid (TurnI embS true kk nn false (stepKeys true true ⟨6, sa, sk, st, sv, c, sb⟩) (l.map embS) (wts (ss.take i)) 0 l) := TurnI.start HLL.out.1 HLL.out.2
            have HNX : Hid (stepNext true true kk nn (l.map embS) ⟨6, sa, sk, st, sv, c, sb⟩ = some (dropAll true kk nn (stepKeys true true ⟨6, sa, sk, st, sv, c, sb⟩) (l.map embS))) := stepNext_drop (.inr rfl)
            have HMK : Hid (∀ n : Nat, WfS (mkS ⟨6, sa, sk, st, sv, c, sb⟩ n)) := fun n => by first | exact mkI_64 _ _ | trivial
            have HMANY : Hid (∀ (n : Nat) (W : World), n ≤ 3000 → Below wo.heap.size wo W → Calls Tryz.prog 56 #[.agg #[.int .u8 6, .int .i64 sa, .int .i64 sk, .string st, .int .i64 sv, .int .i64 c, .int .i64 sb], .int .i64 n] W fun e w' => e = .returned (Value.string (mkS ⟨6, sa, sk, st, sv, c, sb⟩ n)) ∧ Below W.heap.size W w') := fun n W hn hW =>
              manyS ⟨6, sa, sk, st, sv, c, sb⟩ n W hn (HTABO.out.grow hW) HOK.out.text
            generalize mkS ⟨6, sa, sk, st, sv, c, sb⟩ = mk at *
            generalize stepKeys true true ⟨6, sa, sk, st, sv, c, sb⟩ = KS at *
            go_upto_region 36 with (fail)
            go_loopg [19] c (fun g s19 wr => ∃ (n pn : Nat) (m : List (ByteArray × Int)), n + g = c ∧ s19 = .int .i64 n ∧ Whole wr wo.heap.size [.int .u8 6, .int .i64 sa, .int .i64 sk, .string st, .int .i64 sv, .int .i64 c, .int .i64 sb] 90 ∧ Whole wr (wo.heap.size + 1) [.pointer (some ⟨pn, 0, none⟩)] 108 ∧ Whole wr (wo.heap.size + 1 + 1) [.int .i64 0, .int .i64 0, .bool false, .slice none 0 0] 92 ∧
              Below wo.heap.size wo wr ∧ wo.heap.size + 3 ≤ wr.heap.size ∧ Nss.MapAt kk nn wr (Since S (wo.heap.size + 3) wr) pn (wts (ss.take i) + n) m ∧ TurnI embS true kk nn false KS (l.map embS) (wts (ss.take i)) n m)
            case atStart => exact ⟨0, p, l, by omega, rfl, HBS.out, HBM.out, HBA.out, HB3.out, Nat.le_of_eq HSZB.out.symm, Nss.MapAt.keep HMB.out (fun _ h => .inl h) (fun _ _ => rfl), HT0.out⟩
            case round =>
              obtain ⟨n, pn, m, hig, rfl, hws, hwm, hwa, hbw, hsz, hmm, htn⟩ := hrel
              have HLNN := HLN.out
              have HMLEN : Hid (m.length ≤ 20200) := by have h1 := htn.len; have h2 := HNN.out; have h3 := HWT.out; show _ ≤ _; omega
              have t0 := hws.cell (j := 0) rfl
              have t1 := hws.cell (j := 1) rfl
              have t2 := hws.cell (j := 2) rfl
              have t3 := hws.cell (j := 3) rfl
              have t4 := hws.cell (j := 4) rfl
              have t5 := hws.cell (j := 5) rfl
              have t6 := hws.cell (j := 6) rfl
              have hlt' : n < c ∨ n = c := by omega
              rcases hlt' with hlt | rfl
              · have hnc : (n : Int) < (c : Int) := by omega
                have hwn : IntKind.i64.wrap ((n : Int) + 1) = (n : Int) + 1 := IntWalk.i64_in _ (by omega)
                have hkw := HKW.out.grow hbw
                have y1 := hkw.cell (j := 1) rfl
                have m0 := hwm.cell (j := 0) rfl
                have m0d : wr.drew.cell? ⟨wo.heap.size + 1, 0, none⟩ = some (.pointer (some ⟨pn, 0, none⟩)) := m0
                have HN3 : Hid (n ≤ 3000) := by show _ ≤ _; omega
                have HWSM := Lib.hid (And.intro hws (And.intro hwm hwa))
                have HBW := Lib.hid hbw
                have HSZ := Lib.hid hsz
                have HMM := Lib.hid hmm
                have HTN := Lib.hid htn
                have HIG2 := Lib.hid hig
                have HLT2 := Lib.hid hlt
                have HSI : Hid (∀ x, Since S (wo.heap.size + 3) wr x → x < wr.heap.size) := fun x hx => by
                  rcases hx with h | h
                  · have := HSLT.out x h; omega
                  · exact h.2
                clear hws hwm hwa hbw hsz hmm htn hig hlt hkw
                go_upto_region 38 with (fail)
                have y1d : wr.drew.cell? ⟨w.heap.size, 1, none⟩ = some (.func (.func 56) #[] #[]) := y1
                have t0d : wr.drew.cell? ⟨wo.heap.size, 0, none⟩ = some (.int .u8 6) := t0
                have t1d : wr.drew.cell? ⟨wo.heap.size, 1, none⟩ = some (.int .i64 sa) := t1
                have t2d : wr.drew.cell? ⟨wo.heap.size, 2, none⟩ = some (.int .i64 sk) := t2
                have t3d : wr.drew.cell? ⟨wo.heap.size, 3, none⟩ = some (.string st) := t3
                have t4d : wr.drew.cell? ⟨wo.heap.size, 4, none⟩ = some (.int .i64 sv) := t4
                have t5d : wr.drew.cell? ⟨wo.heap.size, 5, none⟩ = some (.int .i64 c) := t5
                have t6d : wr.drew.cell? ⟨wo.heap.size, 6, none⟩ = some (.int .i64 sb) := t6
                go_region_law ((go_simp; first | (go_at_call 56; refine (HMANY.out n _ HN3.out (below_drew HBW.out)).mono ?_; rintro e w5 ⟨rfl, hB5⟩; have hb5 := gTrans (below_drew (gRefl wr)) hB5; have m5 := gCell hb5 m0; have HB5 := Lib.hid hb5; have HADD := Lib.hid (Nss.setDel kk nn (mk n) (HMK.out n) (Since S (wo.heap.size + 3) wr) w5 (fun x hx => Nat.lt_of_lt_of_le (HSI.out x hx) HB5.out.size) pn (wts (ss.take i) + n) m (Nss.MapAt.keep HMM.out (fun _ h => h) (fun b hb => HB5.out.block b (HSI.out b hb))) (by have := HMLEN.out; omega)); clear hB5 hb5) | (go_at_call 47; refine HADD.out.mono ?_; rintro e w6 ⟨p6, rfl, hB6, hM6⟩; have hb6 := gTrans HB5.out hB6; have hW6 := HWSM.out.2.1.grow hb6; have x0 := hW6.cell (j := 0) rfl; have f0 := hW6.frozen 0; have HB6 := Lib.hid hb6; have HM6 : Hid (Nss.MapAt kk nn w6 (Plus (Since S (wo.heap.size + 3) wr) w5 w6) p6 (wts (ss.take i) + n + 1) _) := (hM6.more (Nat.le_succ _)); have HW6 := Lib.hid hW6; clear hB6 hM6 hb6 hW6)))
                all_goals
                  go_wp2
                  go_roundg (gk - 1)
                  case measure => have := HIG2.out; omega
                  case rel =>
                    obtain ⟨hW7, hU7⟩ := whole_set HW6.out (.pointer (some ⟨p6, 0, none⟩)) (i := 0) (by simp)
                    have hs6 := HB6.out.size
                    have hs5 := HB5.out.size
                    have hs7 := hU7.size
                    have hsz := HSZ.out
                    refine ⟨n + 1, p6, _, by have := HIG2.out; omega, by simp, (HWSM.out.1.grow HB6.out).upd hU7 (by omega), hW7, (HWSM.out.2.2.grow HB6.out).upd hU7 (by omega), below_upd (gTrans HBW.out HB6.out) hU7 (by omega), by omega, Nss.MapAt.keep HM6.out (fun b hb => ?_) (fun b hb => hU7.heap ?_), HTN.out.drop (HKAT.out n HLT2.out) (hf kk nn (mk n))⟩
                    · rcases hb with (h | h) | h
                      · exact .inl h
                      · exact .inr ⟨h.1, by omega⟩
                      · exact .inr ⟨by omega, by rw [hU7.size]; exact h.2⟩
                    · rcases hb with (h | h) | h
                      · have := HSLT.out b h; omega
                      · omega
                      · omega
              · have HWSM := Lib.hid (And.intro hws (And.intro hwm hwa))
                have HBW := Lib.hid hbw
                have HSZ := Lib.hid hsz
                have HMM := Lib.hid hmm
                have HTN := Lib.hid htn
                clear hws hwm hwa hbw hsz hmm htn hig
                go_wp2_with fail
                go_meet
                have hT := HTN.out
                refine iarm_new (keeps_ma kk nn) HRUN.out HBW.out HSZ.out HWSM.out.1 HWSM.out.2.1 HWSM.out.2.2 HMM.out (by rw [HWT.out]; exact Nat.le_refl _) (by rw [HWT.out]; exact hT.len) hT.zero (.inr (.inr (.inr rfl))) ?_
                rw [HNX.out, hT.drops HKL.out.symm]
      case rest =>
      obtain ⟨S', p', l', an, la, lc, hBx, hWs, hWm, hWa, hrunx, hmx, hlx, hzx, hrsx, hS', hcase⟩ := hcut
      have hstep := runA_step HP.out HA.out
      rw [show (⟨op, sa, sk, st, sv, sc, sb⟩ : St).at_ = sa from rfl, HVER.out] at hstep
      have t0 := hWs.cell (j := 0) rfl
      have m0 := hWm.cell (j := 0) rfl
      have hww := HWR.out
      have hnS : ∀ b, b < 3 → ¬ S' (wo.heap.size + b) := fun b hb h => by have := hS' _ h; omega
      have HA2 : Hid (¬ S' (wo.heap.size + 1 + 1)) := hnS 2 (by omega)
      have HO8 : Hid (∀ k, u8.ownBlock = some k → k < wo.heap.size) := fun k hk => (HRUN.out.out.lt k hk).2
      have HO7 : Hid (g7 < wo.heap.size) := by
        obtain ⟨_, _, h7, _⟩ := HRUN.out.row
        exact (h7.lt g7 rfl).2
      have HLSL : Hid (ls.length + 1 ≤ 10000 ∧ outs.length + 1 ≤ 10000) := by have h := HBND.out; have h2 := HIG.out; exact ⟨by omega, by omega⟩
      have HMX8 : Hid (outs.length + 1 ≤ maxLen) := by show _ ≤ _; simp only [maxLen]; have := HLSL.out; omega
      have HBYT8 : Hid ((outs.length + 1) * 48 ≤ 140737488355328) := by show _ ≤ _; have := HLSL.out; omega
      have HMX7 : Hid (ls.length + 1 ≤ maxLen) := by show _ ≤ _; simp only [maxLen]; have := HLSL.out; omega
      have HBYT7 : Hid ((ls.length + 1) * 8 ≤ 140737488355328) := by show _ ≤ _; have := HLSL.out; omega
      have HBX := Lib.hid hBx
      have HRX := Lib.hid hrunx
      have HMX := Lib.hid hmx
      have HLX := Lib.hid (And.intro hlx hzx)
      have HRSX := Lib.hid hrsx
      have HWSM : Hid (Whole wc wo.heap.size [.int .u8 op, .int .i64 sa, .int .i64 sk, .string st, .int .i64 sv, .int .i64 sc, .int .i64 sb] 90 ∧ Whole wc (wo.heap.size + 1) [.pointer (some ⟨p', 0, none⟩)] 108 ∧ Whole wc (wo.heap.size + 1 + 1) (anc (an, .slice la an.list.length lc)) 92) := ⟨hWs, hWm, hWa⟩
      have HSTEP := Lib.hid hstep
      have HBW : Hid (Below (w.heap.size + 1) wa wc) := HBR.out.trans (hBx.mono hww)
      have HSL : Hid (∀ x, S' x → x < wc.heap.size) := hrunx.lt
      rcases hcase with ⟨hop, hnx, han⟩ | ⟨hop, hnx, hsay⟩
      · as_aux_lemma =>
          subst han
          have HNX := Lib.hid hnx
          have HSY := Lib.hid (stepSays_new hnx)
          have hop' : op = 0 ∨ op = 1 ∨ op = 5 ∨ op = 6 := hop
          have HOP := Lib.hid hop'
          clear hstep hBx hWs hWm hWa hrunx hmx hlx hzx hrsx hS' hnS hop hop' hnx hww
          go_upto_region 39 with (fail)
          go_upto_if 153 with (fail)
          go_cut [153] (fun s153 wx => s153 = .bool true ∧ wx = wc)
          case first =>
            rcases HOP.out with rfl | rfl | rfl | rfl
            all_goals
              go_wp2_with fail
              go_meet
              exact ⟨rfl, rfl⟩
          case rest =>
          obtain ⟨rfl, rfl⟩ := hcut
          have HLEN := Lib.hid (Nss.setLen kk nn S' wc HSL.out p' _ l' HMX.out)
          go_upto_region 45 with (go_at_call 49; refine HLEN.out.mono ?_; rintro e w5 ⟨rfl, hB5⟩; have hA5 := HWSM.out.2.2.grow hB5; have x1 := hA5.cell (j := 1) rfl; have f1 := hA5.frozen 1; have HB5 := Lib.hid hB5; have HA5 := Lib.hid hA5; clear hB5 hA5)
          obtain ⟨hA6, hU6⟩ := whole_set HA5.out (.int .i64 l'.length) (i := 1) (by simp)
          have h7A : (Value.slice (some ⟨g7, 0, none⟩) ls.length cap7).ownBlock ≠ some (wo.heap.size + 1 + 1) := fun e => by have h := HO7.out; simp [Value.ownBlock] at e; omega
          have h8A : u8.ownBlock ≠ some (wo.heap.size + 1 + 1) := fun e => by have h := HO8.out _ e; omega
          have HRV := Lib.hid ((HRX.out.grow (keeps_ma kk nn) HB5.out).upd (keeps_ma kk nn) hU6 HA2.out h7A h8A)
          have HMV : Hid (Nss.MapAt kk nn (w5.setCell ⟨wo.heap.size + 1 + 1, 1, none⟩ (.int .i64 l'.length)) S' p' (wts (ss.take i) + wt ⟨op, sa, sk, st, sv, sc, sb⟩) l') := Nss.MapAt.keep HMX.out (fun _ h => h) fun b hb => (hU6.heap (fun e => HA2.out (e ▸ hb))).trans (HB5.out.block b (HSL.out b hb))
          have hm6 := (HWSM.out.2.1.grow HB5.out).upd hU6 (by omega)
          have m0 := hm6.cell (j := 0) rfl
          have HA6 : Hid (Whole (w5.setCell ⟨wo.heap.size + 1 + 1, 1, none⟩ (.int .i64 l'.length)) (wo.heap.size + 1 + 1) (anc (⟨0, (l'.length : Int), false, []⟩, .slice la 0 lc)) 92) := hA6
          have HBV : Hid (Below (w.heap.size + 1) wa (w5.setCell ⟨wo.heap.size + 1 + 1, 1, none⟩ (.int .i64 l'.length))) := below_upd (HBW.out.trans (HB5.out.mono HRX.out.big)) hU6 (by have := HWR.out; omega)
          have HNA : Hid ((Value.slice (some ⟨g7, 0, none⟩) ls.length cap7).ownBlock ≠ some (wo.heap.size + 1 + 1)) := h7A
          clear x1 f1 hA6 hU6 h7A h8A hm6 t0
          generalize w5.setCell ⟨wo.heap.size + 1 + 1, 1, none⟩ (.int .i64 l'.length) = wv at *
          have hgn := gNew wv (.cells #[.pointer (some ⟨p', 0, none⟩)] 108)
          have hrn := HRV.out.grow (keeps_ma kk nn) hgn
          obtain ⟨ps, r1, r2, r3⟩ := hrn.row
          have HR2 := Lib.hid r2
          have HR13 := Lib.hid (And.intro r1 r3)
          have HRN := Lib.hid hrn
          have HN7 := Lib.hid (news_of (box_news wv #[.pointer (some ⟨p', 0, none⟩)] 108))
          have HBASE := Lib.hid hrn.big
          have HWN := Lib.hid (HA6.out.grow hgn)
          have HBN := Lib.hid (HBV.out.trans (hgn.mono HRV.out.big))
          have HMN := Lib.hid (Nss.MapAt.keep HMV.out (fun _ h => h) fun b hb => hgn.block b (HRV.out.lt b hb))
          have HONE : Hid (∀ u ∈ [Value.pointer (some ⟨p', 0, none⟩)], u.oneCell' = true) := by intro u hu; simp only [List.mem_cons, List.not_mem_nil, or_false] at hu; subst hu; rfl
          clear hgn hrn r1 r2 r3
          go_upto_region 46 with ((with_reducible refine at_slot 164 ?_); refine wpList_append_moved _ rfl _ _ 110 rfl (w.heap.size + 1) 108 im _ 1 8 Tryz.underlying110 him hm0 hm1 hm2 rfl (by omega) _ ls.length (ps.map fun p => Value.pointer (some ⟨p, 0, none⟩)) (by rfl) HR2.out ⟨wv.heap.size, 0, none⟩ 1 1 [.pointer (some ⟨p', 0, none⟩)] (by rfl) rfl HN7.out HONE.out HMX7.out HBYT7.out HBASE.out ?_; intro v7' w8 hown7 hgr7 hmv7)
          have HRU8 := Lib.hid (HRN.out.ver (keeps_ma kk nn) HR13.out.1 HR2.out HR13.out.2 hgr7 hmv7 hown7 HMN.out)
          have hW8 : Whole w8 (wo.heap.size + 1 + 1) (anc (⟨0, (l'.length : Int), false, []⟩, .slice la 0 lc)) 92 := (hgr7.block _ HWN.out.lt (fun e => HNA.out e.symm)).trans HWN.out
          have z0 := hW8.cell (j := 0) rfl
          have z1 := hW8.cell (j := 1) rfl
          have z2 := hW8.cell (j := 2) rfl
          have z3 := hW8.cell (j := 3) rfl
          have hgn8 := gNew w8 (.cells (anc (⟨0, (l'.length : Int), false, []⟩, .slice la 0 lc)).toArray 92)
          have HR9 := Lib.hid (HRU8.out.grow (keeps_ma kk nn) hgn8)
          have HN9 := Lib.hid (news_of (box_news w8 (anc (⟨0, (l'.length : Int), false, []⟩, .slice la 0 lc)).toArray 92))
          have HONE9 : Hid (∀ u ∈ anc (⟨0, (l'.length : Int), false, []⟩, .slice la 0 lc), u.oneCell' = true) := oneAn _ la 0 lc
          have HLT7 := Lib.hid HR2.out.lt
          have HB8 : Hid (Below (w.heap.size + 1) wa w8) := HBN.out.grown hgr7 HBASE.out (fun k hk => (HLT7.out k hk).1)
          clear hown7 hgr7 hmv7 hW8 hgn8 m0
          go_wp2_with ((with_reducible refine at_slot 168 ?_); refine wpList_append_moved _ rfl _ _ 28 rfl (w.heap.size + 1) 92 ia _ 4 48 Tryz.underlying28 hia ha0 ha1 ha2 rfl (by omega) _ outs.length (ancs outs) (by rfl) HR9.out.out ⟨w8.heap.size, 0, none⟩ 1 1 (anc (⟨0, (l'.length : Int), false, []⟩, .slice la 0 lc)) (by rfl) rfl HN9.out HONE9.out HMX8.out HBYT8.out HR9.out.big ?_; intro v8' w10 hown8 hgr8 hmv8)
          have HLT8 := Lib.hid HR9.out.out.lt
          go_roundg (gk - 1)
          case measure => have := HIG.out; omega
          case rel =>
            have hig := HIG.out
            obtain ⟨b1, b2, b3, b4⟩ := HBND.out
            have hb10 := (HB8.out.trans ((gNew w8 (.cells (anc (⟨0, (l'.length : Int), false, []⟩, .slice la 0 lc)).toArray 92)).mono HRU8.out.big)).grown hgr8 HR9.out.big (fun k hk => (HLT8.out k hk).1)
            have hsay := HR9.out.say (keeps_ma kk nn) (x := (⟨0, (l'.length : Int), false, []⟩, .slice la 0 lc)) hgr8 hmv8 hown8 ⟨la, lc, rfl, Nat.zero_le _, fun h => absurd h (Nat.lt_irrefl _)⟩
            rw [← HWTN.out] at hsay
            refine ⟨i + 1, S', ls ++ [l'], outs ++ [(⟨0, (l'.length : Int), false, []⟩, .slice la 0 lc)], by omega, by simp, hsay, ?_, hb10, by simp, by simp; omega, by simp; omega, ?_⟩
            · have h := HSTEP.out
              rw [HNX.out, HSY.out, List.length_map] at h
              rw [h]
              simp [vs]
            · intro m hm
              have hwn := HWTN.out
              rcases List.mem_append.1 hm with hm | hm
              · have h := b4 m hm
                exact ⟨by omega, h.2⟩
              · simp only [List.mem_cons, List.not_mem_nil, or_false] at hm
                subst hm
                exact ⟨by have := HLX.out.1; omega, HLX.out.2⟩
      · as_aux_lemma =>
          have HNX := Lib.hid hnx
          have HSY := Lib.hid hsay
          have hop' : op = 2 ∨ op = 3 ∨ op = 4 := by
            have h1 : 0 ≤ op := HOK.out.lo
            have h2 : op ≤ 6 := HOK.out.hi
            have h3 : ¬ (op = 0 ∨ op = 1 ∨ op = 5 ∨ op = 6) := hop
            omega
          have HOP := Lib.hid hop'
          clear hstep hBx hWs hWm hWa hrunx hmx hlx hzx hrsx hS' hnS hop hop' hnx hsay hww
          go_upto_region 39 with (fail)
          go_upto_if 153 with (fail)
          go_cut [153] (fun s153 wx => s153 = .bool false ∧ wx = wc)
          case first =>
            rcases HOP.out with rfl | rfl | rfl
            all_goals
              go_wp2_with fail
              go_meet
              exact ⟨rfl, rfl⟩
          case rest =>
          obtain ⟨rfl, rfl⟩ := hcut
          obtain ⟨av, an1, aok, al⟩ := an
          have z0 := HWSM.out.2.2.cell (j := 0) rfl
          have z1 := HWSM.out.2.2.cell (j := 1) rfl
          have z2 := HWSM.out.2.2.cell (j := 2) rfl
          have z3 := HWSM.out.2.2.cell (j := 3) rfl
          have hgn8 := gNew wc (.cells (anc (⟨av, an1, aok, al⟩, .slice la al.length lc)).toArray 92)
          have HR9 := Lib.hid (HRX.out.grow (keeps_ma kk nn) hgn8)
          have HRS9 := Lib.hid (HRSX.out.keep (fun _ h => h) (fun b hb => hgn8.block b (HSL.out b hb)))
          have HN9 := Lib.hid (news_of (box_news wc (anc (⟨av, an1, aok, al⟩, .slice la al.length lc)).toArray 92))
          have HONE9 : Hid (∀ u ∈ anc (⟨av, an1, aok, al⟩, .slice la al.length lc), u.oneCell' = true) := oneAn _ la _ lc
          have HB8 := Lib.hid (HBW.out.trans (hgn8.mono HRX.out.big))
          clear hgn8 t0 m0
          go_wp2_with ((with_reducible refine at_slot 168 ?_); refine wpList_append_moved _ rfl _ _ 28 rfl (w.heap.size + 1) 92 ia _ 4 48 Tryz.underlying28 hia ha0 ha1 ha2 rfl (by omega) _ outs.length (ancs outs) (by rfl) HR9.out.out ⟨wc.heap.size, 0, none⟩ 1 1 (anc (⟨av, an1, aok, al⟩, .slice la al.length lc)) (by rfl) rfl HN9.out HONE9.out HMX8.out HBYT8.out HR9.out.big ?_; intro v8' w10 hown8 hgr8 hmv8)
          have HLT8 := Lib.hid HR9.out.out.lt
          go_roundg (gk - 1)
          case measure => have := HIG.out; omega
          case rel =>
            have hig := HIG.out
            obtain ⟨b1, b2, b3, b4⟩ := HBND.out
            have hsay := HR9.out.say (keeps_ma kk nn) (x := (⟨av, an1, aok, al⟩, .slice la al.length lc)) hgr8 hmv8 hown8 HRS9.out
            rw [← HWTN.out] at hsay
            refine ⟨i + 1, S', ls, outs ++ [(⟨av, an1, aok, al⟩, .slice la al.length lc)], by omega, by simp, hsay, ?_, HB8.out.grown hgr8 HR9.out.big (fun k hk => (HLT8.out k hk).1), b1, by omega, by simp; omega, fun m hm => ?_⟩
            · have h := HSTEP.out
              rw [HNX.out, HSY.out] at h
              rw [h]
              simp
            · have h := b4 m hm
              have hwn := HWTN.out
              exact ⟨by omega, h.2⟩
    · have HE := Lib.hid (runA_end (Nat.le_refl _) hA)
      have HAN := Lib.hid (hrun.done rfl)
      have HB2 := Lib.hid (HB.out.trans (hB.mono (Nat.le_succ _)))
      clear hrun hA hB
      go_wp2
      go_ret
      rw [← HE.out]
      obtain ⟨outs', h1, h2, h3⟩ := HAN.out
      exact ⟨_, rfl, ⟨outs', h1, h2.keep (fun b hb => Nat.le_trans (Nat.le_succ _) hb) (fun _ _ => rfl), h3.keep (fun b hb => Nat.le_trans (Nat.le_succ _) hb) (fun _ _ => rfl)⟩, HB2.out⟩
end RT
end Go.Proofs.YtfejflhgaphilaaGreatDoor

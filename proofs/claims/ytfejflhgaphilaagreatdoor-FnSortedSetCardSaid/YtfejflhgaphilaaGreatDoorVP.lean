/-
  THE WALK of the specification's Sorted: scripts over the versions of a set.
-/
import Derived.Test.YtfejflhgaphilaaGreatDoorVO
import Derived.Test.YtfejflhgaphilaaGreatDoorVA
import Derived.Deep.DeepCutAuto
import Derived.Deep.RegionLaw
set_option linter.all false
set_option linter.unusedVariables false
set_option linter.unusedSimpArgs false
set_option linter.unusedSectionVars false
namespace Go.Proofs.YtfejflhgaphilaaGreatDoor
open Go.RowKit Go.Sort Lst

theorem infoO : (Tryz.prog.info? 94).map (fun i => (i.zero, i.size, i.bytes)) = some (some (.agg #[.int .i64 0, .int .i64 0, .bool false, .slice none 0 0]), 4, 48) := by kernel_rfl
theorem infoL : (Tryz.prog.info? 38).map (fun i => (i.zero, i.size, i.bytes)) = some (some (.slice none 0 0), 1, 24) := by kernel_rfl

theorem set_zero' (A B : List Pr) (p : Pr) (tl : List Value) : (prs (A ++ p :: B) ++ tl).set (A.length * 3 + 2) (.int .i64 0) = prs (A ++ zeroP true p :: B) ++ tl := by
  have e : prs (A ++ p :: B) ++ tl = prs A ++ (.int .i64 p.key :: .string p.text :: .int .i64 p.val :: (prs B ++ tl)) := by simp [prs, List.flatMap_append]
  have e2 : prs (A ++ zeroP true p :: B) ++ tl = prs A ++ (.int .i64 p.key :: .string p.text :: .int .i64 0 :: (prs B ++ tl)) := by simp [prs, List.flatMap_append, zeroP]
  have h1 : (prs A).length = A.length * 3 := len_prs A
  rw [e, e2, List.set_append_right _ _ (by omega), h1, Nat.add_sub_cancel_left]
  rfl
theorem next_of {α : Type} {l : List α} {i : Nat} {x : α} (h : l[i]? = some x) : l.take (i + 1) = l.take i ++ [x] := by
  obtain ⟨hl, he⟩ := List.getElem?_eq_some_iff.1 h
  rw [List.take_succ_eq_append_getElem hl, he]

/-- A version that is right. -/
structure VerOK (txt : Bool) (kk nn : Int) (N : Nat) (l : List Pr) : Prop where
  srt : Srt (cmpP txt kk nn) l
  key : ∀ p ∈ l, I64 p.key
  len : l.length ≤ N
theorem VerOK.more {txt : Bool} {kk nn : Int} {N M : Nat} {l : List Pr} (h : VerOK txt kk nn N l) (hN : N ≤ M) : VerOK txt kk nn M l := ⟨h.srt, h.key, Nat.le_trans h.len hN⟩

/-- The keys put, or taken out, so far. -/
structure Turn (txt : Bool) (kk nn : Int) (put : Bool) (keys l : List Pr) (N j : Nat) (m : List Pr) : Prop where
  ok : VerOK txt kk nn (N + j) m
  run : (if put then putAll txt kk nn keys l else dropAll txt kk nn keys l) = (if put then putAll txt kk nn (keys.drop j) m else dropAll txt kk nn (keys.drop j) m)
theorem Turn.start {txt : Bool} {kk nn : Int} {put : Bool} {keys l : List Pr} {N : Nat} (h : VerOK txt kk nn N l) : Turn txt kk nn put keys l N 0 l := ⟨h, rfl⟩
theorem Turn.put {txt : Bool} {kk nn : Int} {keys l m : List Pr} {N j : Nat} {k : Pr} (h : Turn txt kk nn true keys l N j m) (hk : keys[j]? = some k) (hi : I64 k.key) : Turn txt kk nn true keys l N (j + 1) (ins (fP txt kk nn k) k m) := by
  refine ⟨⟨srt_ins (ordP txt kk nn) h.ok.srt k, fun q hq => ?_, ?_⟩, putAll_step hk h.run⟩
  · rcases mem_insP hq with rfl | hq
    · exact hi
    · exact h.ok.key q hq
  · have h1 := length_ins (fP txt kk nn k) k m
    have h2 := h.ok.len
    split at h1 <;> omega
theorem mem_delP {f : Pr → Int} {q : Pr} {l : List Pr} (h : q ∈ del f l) : q ∈ l := by
  unfold del at h
  split at h
  · rcases List.mem_append.1 h with h | h
    · exact List.mem_of_mem_take h
    · exact List.mem_of_mem_drop h
  · exact h
theorem Turn.drop {txt : Bool} {kk nn : Int} {keys l m : List Pr} {N j : Nat} {k : Pr} (h : Turn txt kk nn false keys l N j m) (hk : keys[j]? = some k) : Turn txt kk nn false keys l N (j + 1) (del (fP txt kk nn k) m) := by
  refine ⟨⟨srt_del h.ok.srt, fun q hq => h.ok.key q (mem_delP hq), ?_⟩, dropAll_step hk h.run⟩
  have := length_del (fP txt kk nn k) m
  have := h.ok.len
  omega
theorem Turn.puts {txt : Bool} {kk nn : Int} {keys l m : List Pr} {N : Nat} (h : Turn txt kk nn true keys l N keys.length m) : m = putAll txt kk nn keys l := putAll_end (Nat.le_refl _) h.run
theorem Turn.drops {txt : Bool} {kk nn : Int} {keys l m : List Pr} {N : Nat} (h : Turn txt kk nn false keys l N keys.length m) : m = dropAll txt kk nn keys l := dropAll_end (Nat.le_refl _) h.run

theorem keys_key {txt set : Bool} {s : St} (h : I64 s.key) : ∀ p ∈ stepKeys txt set s, I64 p.key := by
  have h0 : I64 0 := ⟨by decide, by decide⟩
  intro p hp
  obtain ⟨q, hq, rfl⟩ := List.mem_map.1 hp
  have hz : (zeroP set q).key = q.key := by cases set <;> rfl
  rw [hz]
  unfold rawKeys at hq
  split at hq
  · obtain ⟨i, _, rfl⟩ := List.mem_map.1 hq
    unfold manyP
    split
    · exact h0
    · exact i64_wrap _
  · simp only [List.mem_cons, List.not_mem_nil, or_false] at hq
    subst hq
    cases txt
    · exact h
    · exact h0

/-- What a step leaves. -/
def SArm (txt : Bool) (kk nn : Int) (base : Nat) (s : St) (ls : List (List Pr)) (l : List Pr) (outs : List (An × Value)) (v10 : Value) (N A : Nat) (wr : World) (v9 : Value) (wx : World) : Prop :=
  ∃ (S' : Nat → Prop) (lv : Value), Below base wr wx ∧ Whole wx A (anc (stepSays txt true kk nn l s, lv)) 94 ∧ lv.oneCell' = true ∧
    SRun base wx S' (ls ++ (stepNext txt true kk nn l s).toList) v9 outs v10 ∧ (∀ m ∈ (stepNext txt true kk nn l s).toList, VerOK txt kk nn (N + wt s) m) ∧ RowS wx S' lv (stepSays txt true kk nn l s).list.length (prs (stepSays txt true kk nn l s).list) ∧ ¬ S' A ∧ v9.ownBlock ≠ some A

section
variable {txt : Bool} {kk nn : Int} {base : Nat} {s : St} {ls : List (List Pr)} {l l' : List Pr} {outs : List (An × Value)} {v9 v9' v10 v18 lv : Value} {N A : Nat} {wr wc wq w7 w8 wx : World} {S : Nat → Prop} {ps : List Value}

/-- A step that made a version. -/
theorem sarm_new (hrun : SRun base wr S ls v9 outs v10) (hBx : Below wr.heap.size wr wc) (hA0 : wr.heap.size ≤ A) (hA1 : A < wc.heap.size) (hW : Whole wc A [.int .i64 0, .int .i64 0, .bool false, .slice none 0 0] 94)
    (hq : Below wc.heap.size wc wq) (ho : wq.ownsRow wc.heap.size 49 3 v18 l'.length (prs l')) (h7 : Below wq.heap.size wq w7)
    (r1 : ps.length = ls.length) (r2 : w7.ownsRow base 38 1 v9 ls.length ps) (r3 : ∀ (j : Nat) (v : Value) (l : List Pr), ps[j]? = some v → ls[j]? = some l → Ver w7 (Plus S wc wq) v l)
    (hg : w7.grownBy w8 v9.ownBlock) (hm : Moved w7 v9 v9') (ho9 : w8.ownsRow base 38 1 v9' (ls.length + 1) (ps ++ [v18]))
    (hn : stepNext txt true kk nn l s = some l') (hv : VerOK txt kk nn (N + wt s) l') :
    SArm txt kk nn base s ls l outs v10 N A wr v9' (w8.setCell ⟨A, 1, none⟩ (.int .i64 l'.length)) := by
  have hrq := (hrun.grow hBx).plus hq
  have hr7 := hrq.grow h7
  have hver : Ver w7 (Plus S wc wq) v18 l' := (own_ver ho (S := Plus S wc wq) (fun k hk => .inr (ho.lt k hk))).keep (fun _ h => h) (fun b hb => h7.block b (hrq.lt b hb))
  have hr8 := hr7.ver r1 r2 r3 hg hm ho9 hver
  have hnA : ¬ Plus S wc wq A := fun h => by
    rcases h with h | h
    · have := hrun.lt _ h; omega
    · have := h.1; omega
  obtain ⟨ps0, _, hlt9, _⟩ := hrun.row
  have h79 : v9.ownBlock ≠ some A := fun e => by have := (hlt9.lt _ e).2; omega
  have hs7 : wc.heap.size ≤ w7.heap.size := Nat.le_trans hq.size h7.size
  have h9A : v9'.ownBlock ≠ some A := fun e => by
    rcases hm A e with h | h
    · exact h79 h
    · omega
  have h10A : v10.ownBlock ≠ some A := fun e => by have := (hrun.out.lt _ e).2; omega
  have hW8 : Whole w8 A [.int .i64 0, .int .i64 0, .bool false, .slice none 0 0] 94 := (hg.block A (by omega) (fun e => h79 e.symm)).trans ((hW.grow hq).grow h7)
  obtain ⟨hW9, hU9⟩ := whole_set hW8 (.int .i64 l'.length) (i := 1) (by simp)
  have hbase : base ≤ wr.heap.size := hrun.big
  have hb7 : Below base wr w7 := ((hBx.mono hbase).trans (hq.mono (Nat.le_trans hbase hBx.size))).trans (h7.mono (Nat.le_trans hbase (Nat.le_trans hBx.size hq.size)))
  have hb8 : Below base wr w8 := hb7.grown hg (Nat.le_trans hbase (Nat.le_trans hBx.size hs7)) (fun k hk => (hlt9.lt k hk).1)
  unfold SArm
  rw [hn, stepSays_new hn]
  refine ⟨Plus S wc wq, .slice none 0 0, below_upd hb8 hU9 (by omega), hW9, rfl, hr8.upd hU9 hnA h9A h10A, fun m hm => ?_, ⟨none, 0, rfl, Nat.le_refl _, fun h => absurd h (Nat.lt_irrefl _)⟩, hnA, h9A⟩
  simp only [Option.toList_some, List.mem_cons, List.not_mem_nil, or_false] at hm
  subst hm
  exact hv

/-- A step that made none. -/
theorem sarm_old (hrun : SRun base wr S ls v9 outs v10) (hBx : Below wr.heap.size wr wc) (hA0 : wr.heap.size ≤ A) (hA1 : A < wc.heap.size) (hx : But wc.heap.size A A wc wx)
    (hn : stepNext txt true kk nn l s = none) {an : An} (han : stepSays txt true kk nn l s = an) (hW : Whole wx A (anc (an, lv)) 94) (h1 : lv.oneCell' = true) (hr : RowS wx (fun b => wc.heap.size ≤ b ∧ b < wx.heap.size) lv an.list.length (prs an.list)) :
    SArm txt kk nn base s ls l outs v10 N A wr v9 wx := by
  have hrc := hrun.grow hBx
  obtain ⟨ps0, _, hlt9, _⟩ := hrun.row
  have hbase : base ≤ wr.heap.size := hrun.big
  have h79 : v9.ownBlock ≠ some A := fun e => by have := (hlt9.lt _ e).2; omega
  have hnA : ¬ Plus S wc wx A := fun h => by
    rcases h with h | h
    · have := hrun.lt _ h; omega
    · have := h.1; omega
  have hb : Below base wr wx := by
    have h1 := hBx.mono hbase
    exact ⟨hx.os.trans h1.os, hx.tape.trans h1.tape, hx.output.trans h1.output, Nat.le_trans h1.size hx.size, fun k hk => (hx.block k (by have := hBx.size; omega) (by omega) (by omega)).trans (h1.block k hk)⟩
  have hsame : ∀ b, b < wr.heap.size → wx.heap[b]? = wc.heap[b]? := fun b hb => hx.block b (by have := hBx.size; omega) (by omega) (by omega)
  unfold SArm
  rw [hn, han]
  refine ⟨Plus S wc wx, lv, hb, hW, h1, ?_, fun m hm => by simp at hm, hr.keep (fun _ h => .inr h) (fun _ _ => rfl), hnA, h79⟩
  rw [Option.toList_none, List.append_nil]
  refine hrc.keep (fun _ h => .inl h) (fun x h => ?_) (fun x h => ?_) hx.size (fun b hb => hsame b (hrun.lt b hb)) (fun k e => ?_) (fun k e => ?_)
  · rcases h with h | h
    · have := hrun.lt x h; have := hBx.size; have := hx.size; omega
    · exact h.2
  · rcases h with h | h
    · exact hrun.ge x h
    · have := hBx.size; omega
  · have hk := (hlt9.lt k e).2
    refine ⟨hsame k hk, fun h => ?_⟩
    rcases h with h | h
    · exact hrun.n9 k e h
    · have := hBx.size; omega
  · have hk := (hrun.out.lt k e).2
    refine ⟨hsame k hk, fun h => ?_⟩
    rcases h with h | h
    · exact hrun.n10 k e h
    · have := hBx.size; omega
end

theorem look_has {α : Type} {f : α → Int} {l : List α} {p : α} (h : has f l = true) (hp : l[pos f l]? = some p) : Lst.look f l = some p := by unfold Lst.look; rw [if_pos h, hp]
theorem look_not {α : Type} {f : α → Int} {l : List α} (h : has f l = false) : Lst.look f l = none := by unfold Lst.look; rw [h]; rfl

set_option maxHeartbeats 16000000 in
set_option maxRecDepth 100000 in
theorem specSorted_any (txt : Bool) (kk nn : Int) (ss : List St) (ssl : Value) (w : World) (hO : OrdOK kk nn) (hss : ∀ s ∈ ss, StOK s) (hlen : ss.length ≤ 200) (hwts : wts ss ≤ 20200) (hR : RowV w ssl ss.length (sts ss)) :
    Calls Tryz.prog 11 #[.bool txt, .bool true, ordV kk nn, ssl] w fun e w' => ∃ v', e = .returned v' ∧ Answers w.heap.size w' v' (runA txt true kk nn [[]] ss) ∧ Below w.heap.size w w' := by
  obtain ⟨a, cap, rfl, hcap, hrow⟩ := hR
  have HROW := Lib.hid hrow
  have HSS := Lib.hid hss
  have HO := Lib.hid hO
  have hB := gNew w (.cells #[.int .u8 kk, .int .i64 nn] 23)
  have q0 : (w.alloc (.cells #[.int .u8 kk, .int .i64 nn] 23)).cell? ⟨w.heap.size, 0, none⟩ = some (.int .u8 kk) := by go_simp
  have q1 : (w.alloc (.cells #[.int .u8 kk, .int .i64 nn] 23)).cell? ⟨w.heap.size, 1, none⟩ = some (.int .i64 nn) := by go_simp
  have hw1 : (w.alloc (.cells #[.int .u8 kk, .int .i64 nn] 23)).heap.size = w.heap.size + 1 := alloc_sz _ _
  have QS := Lib.hid (And.intro q0 (And.intro q1 hw1))
  have HB := Lib.hid hB
  have HWTS := Lib.hid hwts
  obtain ⟨im, him, hm0, hm1, hm2⟩ := info_parts infoL
  obtain ⟨ia, hia, ha0, ha1, ha2⟩ := info_parts infoO
  obtain ⟨ip, hip, hp0, hp1, hp2⟩ := info_parts infoP
  clear hrow hO hss hB q0 q1 hw1 hwts
  go_enter Tryz.func11, Tryz.ntmps11
  go_upto_region 1 with (fail)
  generalize w.alloc (.cells #[.int .u8 kk, .int .i64 nn] 23) = wa at *
  go_upto_region 3 with (fail)
  have hRUN : SRun (w.heap.size + 1) (wa.alloc (.cells #[.slice none 0 0] 38)) (fun _ => False) [[]] (.slice (some ⟨wa.heap.size, 0, none⟩) 1 1) [] (.slice none 0 0) := by
    have hwa := QS.out.2.2
    refine ⟨fun x hx => hx.elim, fun x hx => hx.elim, by rw [alloc_sz]; omega, ⟨[.slice none 0 0], rfl, ?_, ?_⟩, World.ownsRow_nil _ _ _ _, fun _ h => (by cases h), fun k e hx => hx, fun k e => (by cases e), fun k e e2 => (by cases e2)⟩
    · exact whole_own (tl := []) (by omega) (box_news wa #[.slice none 0 0] 38) rfl (Nat.le_refl _) (by simp [maxLen]) rfl
    · intro j p l hj hl
      cases j with
      | zero =>
        simp only [List.getElem?_cons_zero, Option.some.injEq] at hj hl
        subst hj
        subst hl
        exact .inl ⟨rfl, rfl⟩
      | succ j => simp at hj
  have HRUN := Lib.hid hRUN
  have HBB : Hid (Below wa.heap.size wa (wa.alloc (.cells #[.slice none 0 0] 38))) := gNew wa _
  clear hRUN
  generalize hv9 : Value.slice (some ⟨wa.heap.size, 0, none⟩) 1 1 = v90 at *
  generalize wa.alloc (.cells #[.slice none 0 0] 38) = w2 at *
  clear hv9
  go_upto_region 4 with (fail)
  go_loopg [9, 10, 27] ss.length (fun g s9 s10 s27 wr => ∃ (i : Nat) (S : Nat → Prop) (ls : List (List Pr)) (outs : List (An × Value)), i + g = ss.length ∧ s27 = .int .i64 i ∧ SRun (w.heap.size + 1) wr S ls s9 outs s10 ∧
    runA txt true kk nn [[]] ss = outs.map (·.1) ++ runA txt true kk nn ls (ss.drop i) ∧ Below (w.heap.size + 1) wa wr ∧ 0 < ls.length ∧ ls.length ≤ i + 1 ∧ outs.length ≤ i ∧ ∀ l ∈ ls, VerOK txt kk nn (wts (ss.take i)) l)
  case atStart => exact ⟨0, _, [[]], [], by omega, rfl, HRUN.out, rfl, HBB.out.mono (by have := QS.out.2.2; omega), Nat.zero_lt_one, Nat.le_refl _, Nat.le_refl _, fun l h => (by simp only [List.mem_cons, List.not_mem_nil, or_false] at h; subst h; exact ⟨List.Pairwise.nil, fun _ h => (by cases h), Nat.zero_le _⟩)⟩
  case round =>
    obtain ⟨i, S, ls, outs, hig, rfl, hrun, hA, hB, hl0, hl1, hlo, hll⟩ := hrel
    obtain ⟨wo, rfl⟩ : ∃ wo, wo = wr := ⟨_, rfl⟩
    have hlt' : i < ss.length ∨ i = ss.length := by omega
    rcases hlt' with hlt | rfl
    · obtain ⟨b, o, rfl, hR⟩ := HROW.out (by omega)
      obtain ⟨⟨op, sa, sk, st, sv, sc, sb⟩, hp⟩ : ∃ m, ss[i]? = some m := ⟨_, List.getElem?_eq_getElem hlt⟩
      have hc := hR.st hp
      dsimp only at hc
      obtain ⟨c0, c1, c2, c3, c4, c5, c6⟩ := hc
      obtain ⟨q0, q1, hwa⟩ := QS.out
      have hBw : Below w.heap.size w wo := HB.out.trans (hB.mono (Nat.le_succ _))
      have s0 := gCell hBw c0
      have s1 := gCell hBw c1
      have s2 := gCell hBw c2
      have s3 := gCell hBw c3
      have s4 := gCell hBw c4
      have s5 := gCell hBw c5
      have s6 := gCell hBw c6
      have r0 := cell_block (hB.block w.heap.size (Nat.lt_succ_self _)) q0
      have r1 := cell_block (hB.block w.heap.size (Nat.lt_succ_self _)) q1
      have hok := HSS.out _ (List.mem_of_getElem? hp)
      have HOK := Lib.hid hok
      obtain ⟨ps, p1, p2, p3⟩ := hrun.row
      obtain ⟨j, hj, hjl⟩ : ∃ j : Nat, sa % (ls.length : Int) = (j : Int) ∧ j < ls.length := by
        have h1 := Int.emod_nonneg sa (show (ls.length : Int) ≠ 0 by omega)
        have h2 := Int.emod_lt_of_pos sa (show (0 : Int) < ls.length by omega)
        exact ⟨(sa % (ls.length : Int)).toNat, by omega, by omega⟩
      obtain ⟨l, hl⟩ : ∃ l, ls[j]? = some l := ⟨_, List.getElem?_eq_getElem hjl⟩
      obtain ⟨p, hpp⟩ : ∃ p, ps[j]? = some p := ⟨_, List.getElem?_eq_getElem (by omega)⟩
      have hver := p3 j p l hpp hl
      obtain ⟨pa, pc, hpe⟩ := hver.is
      subst hpe
      have HVER := Lib.hid hver
      have HAT : Hid (verAt ls sa = l) := by
        show verAt ls sa = l
        unfold verAt
        rw [hj, Int.toNat_natCast, hl]; rfl
      have HVOK := Lib.hid (hll l (List.mem_of_getElem? hl))
      obtain ⟨g9, cap9, tl9, rfl, hg9, hW9, hc9, hc9', hc9''⟩ := own_whole p2 hl0
      have x9 : wo.cell? ⟨g9, j, none⟩ = some (.slice pa l.length pc) := hW9.cell (by rw [List.getElem?_append_left (by omega), hpp])
      obtain ⟨rm1, rm2, rm3, rm4⟩ := rem_lt sa ls.length (by omega)
      rw [hj] at rm1 rm2
      have HREM := Lib.hid (And.intro rm1 (And.intro rm2 (And.intro rm3 rm4)))
      have hls : (0 : Int) < (ls.length : Int) := by omega
      have hls2 : (ls.length : Int) ≤ 1000000 := by omega
      have hsa := hok.at_
      have hjli : (j : Int) < (ls.length : Int) := by omega
      have hii : (i : Int) < (ss.length : Int) := by omega
      have hb1 := gNew wo (.cells #[.int .u8 op, .int .i64 sa, .int .i64 sk, .string st, .int .i64 sv, .int .i64 sc, .int .i64 sb] 64)
      have hbox := box_news wo #[.int .u8 op, .int .i64 sa, .int .i64 sk, .string st, .int .i64 sv, .int .i64 sc, .int .i64 sb] 64
      have x9' := gCell hb1 x9
      have HB1 := Lib.hid hb1
      have HRUN := Lib.hid hrun
      have HA := Lib.hid hA
      have HBR := Lib.hid hB
      have HIG := Lib.hid hig
      have HBND : Hid (0 < ls.length ∧ ls.length ≤ i + 1 ∧ outs.length ≤ i ∧ ∀ l ∈ ls, VerOK txt kk nn (wts (ss.take i)) l) := ⟨hl0, hl1, hlo, hll⟩
      have HP := Lib.hid hp
      have HWR : Hid (w.heap.size + 1 ≤ wo.heap.size) := hrun.big
      have HBOX := Lib.hid hbox
      have y0 := gCell hb1 r0
      have y1 := gCell hb1 r1
      have t0 := hbox.cell (j := 0) rfl
      have t1 := hbox.cell (j := 1) rfl
      have HSZ0 : Hid ((wo.alloc (.cells #[.int .u8 op, .int .i64 sa, .int .i64 sk, .string st, .int .i64 sv, .int .i64 sc, .int .i64 sb] 64)).heap.size = wo.heap.size + 1) := alloc_sz _ _
      clear hb1 hrun hA hB hig hp c0 c1 c2 c3 c4 c5 c6 q0 q1 hwa hBw hR hok p1 p2 p3 hj hl hpp hg9 hW9 hc9'' hll hbox x9 hl1 hlo hver rm1 rm2 rm3 rm4
      go_upto_region 6 with (fail)
      clear s0 s1 s2 s3 s4 s5 s6 r0 r1
      generalize wo.alloc (.cells #[.int .u8 op, .int .i64 sa, .int .i64 sk, .string st, .int .i64 sv, .int .i64 sc, .int .i64 sb] 64) = wb at *
      go_upto_if 37 with (fail)
      go_cut [13] (fun s13 wx => s13 = .int .i64 (j : Int) ∧ wx = wb)
      case first =>
        obtain ⟨rm1, rm2, rm3, rm4⟩ := HREM.out
        by_cases h : sa.tmod ls.length < 0
        · have HE := Lib.hid (rm1 h)
          clear rm1 rm2
          go_wp2_with fail
          go_meet
          exact ⟨by rw [← HE.out], rfl⟩
        · have HE := Lib.hid (rm2 h)
          clear rm1 rm2
          go_wp2_with fail
          go_meet
          exact ⟨by rw [← HE.out], rfl⟩
      case rest =>
      obtain ⟨rfl, rfl⟩ := hcut
      have hgd := gNew wc (.cells #[.int .i64 0, .int .i64 0, .bool false, .slice none 0 0] 94)
      have HGD := Lib.hid hgd
      have hbd := (HBOX.out.grow hgd)
      have t0 := hbd.cell (j := 0) rfl
      have t1 := hbd.cell (j := 1) rfl
      have t2 := hbd.cell (j := 2) rfl
      have t3 := hbd.cell (j := 3) rfl
      have t4 := hbd.cell (j := 4) rfl
      have t5 := hbd.cell (j := 5) rfl
      have t6 := hbd.cell (j := 6) rfl
      have y0 := gCell hgd y0
      have y1 := gCell hgd y1
      have HWA := Lib.hid (box_news wc #[.int .i64 0, .int .i64 0, .bool false, .slice none 0 0] 94)
      have HBOXD := Lib.hid hbd
      have HSZD : Hid ((wc.alloc (.cells #[.int .i64 0, .int .i64 0, .bool false, .slice none 0 0] 94)).heap.size = wo.heap.size + 2) := by show _ = _; rw [alloc_sz, HSZ0.out]
      clear hgd hbd HREM
      go_upto_region 11 with (fail)
      have HK := Lib.hid (keys_any txt ⟨op, sa, sk, st, sv, sc, sb⟩ (wc.alloc (.cells #[.int .i64 0, .int .i64 0, .bool false, .slice none 0 0] 94)) HOK.out)
      have HKK : Hid (∀ q ∈ stepKeys txt true ⟨op, sa, sk, st, sv, sc, sb⟩, I64 q.key) := keys_key HOK.out.key
      have HKL : Hid ((stepKeys txt true ⟨op, sa, sk, st, sv, sc, sb⟩).length = wt ⟨op, sa, sk, st, sv, sc, sb⟩) := len_keys
      have HKZ : Hid (stepKeys txt true ⟨op, sa, sk, st, sv, sc, sb⟩ = (rawKeys txt ⟨op, sa, sk, st, sv, sc, sb⟩).map (zeroP true)) := rfl
      have HWTN := Lib.hid (wts_next HP.out)
      have HWTL := Lib.hid (wts_le ss (i + 1))
      have HRL : Hid ((rawKeys txt ⟨op, sa, sk, st, sv, sc, sb⟩).length ≤ 20200) := by
        have h1 := HKL.out
        have h2 := HWTN.out
        have h3 := HWTL.out
        have h4 := HWTS.out
        rw [HKZ.out, List.length_map] at h1
        show _ ≤ _
        omega
      generalize wc.alloc (.cells #[.int .i64 0, .int .i64 0, .bool false, .slice none 0 0] 94) = wd at *
      generalize hAA : wc.heap.size = A at *
      have HAA : Hid (A = wo.heap.size + 1) := HSZ0
      clear hAA
      generalize rawKeys txt ⟨op, sa, sk, st, sv, sc, sb⟩ = R at *
      go_upto_if 50 with (go_at_call 31; refine HK.out.mono ?_; rintro e w5 ⟨kv, rfl, ho5, hB5⟩; obtain ⟨ka, kc, rfl, hkc, hkr⟩ := own_rowV ho5; clear hkc hkr)
      have t0 := gCell hB5 t0
      have t1 := gCell hB5 t1
      have t2 := gCell hB5 t2
      have t3 := gCell hB5 t3
      have t4 := gCell hB5 t4
      have t5 := gCell hB5 t5
      have t6 := gCell hB5 t6
      have y0 := gCell hB5 y0
      have y1 := gCell hB5 y1
      have HO5 := Lib.hid ho5
      have HB5 := Lib.hid hB5
      clear ho5 hB5 HK
      go_cut [] (fun wx => wx.ownsRow wd.heap.size 49 3 (.slice ka R.length kc) R.length (prs (R.map (zeroP true))) ∧ w5.grownBy wx (Value.slice ka R.length kc).ownBlock)
      case first =>
        have hR20 : R.length ≤ 20200 := HRL.out
        go_upto_region 14 with (fail)
        go_loopg [17, 53] R.length (fun g s17 s53 wr => ∃ i : Nat, i + g = R.length ∧ s53 = .int .i64 i ∧ wr.ownsRow wd.heap.size 49 3 (.slice ka R.length kc) R.length (prs ((R.take i).map (zeroP true) ++ R.drop i)) ∧ w5.grownBy wr (Value.slice ka R.length kc).ownBlock)
        case atStart => exact ⟨0, by omega, rfl, by simpa using HO5.out, World.grownBy.refl _ _⟩
        case round =>
          obtain ⟨i, hig, rfl, hown, hgb⟩ := hrel
          have hlt' : i < R.length ∨ i = R.length := by omega
          rcases hlt' with hlt | rfl
          · obtain ⟨g, cap, tl, he, hbg, hW, hc1, hc2, hc3⟩ := own_whole hown (by omega)
            injection he with he1 he2 he3
            subst he1
            subst he3
            obtain ⟨p, hp⟩ : ∃ p, R[i]? = some p := ⟨_, List.getElem?_eq_getElem hlt⟩
            obtain ⟨hpl, hpe⟩ := List.getElem?_eq_some_iff.1 hp
            have hD : R.drop i = p :: R.drop (i + 1) := by rw [List.drop_eq_getElem_cons hpl, hpe]
            have hT : ((R.take i).map (zeroP true)).length = i := by simp; omega
            have e1 : prs ((R.take i).map (zeroP true) ++ R.drop i) ++ tl = prs ((R.take i).map (zeroP true) ++ p :: R.drop (i + 1)) ++ tl := by rw [hD]
            rw [e1] at hW
            have hlen : (prs ((R.take i).map (zeroP true) ++ p :: R.drop (i + 1)) ++ tl).length = kc * 3 := by rw [← e1]; exact hc3
            have hset := set_zero' ((R.take i).map (zeroP true)) (R.drop (i + 1)) p tl
            rw [hT] at hset
            have hget : (prs ((R.take i).map (zeroP true) ++ p :: R.drop (i + 1)) ++ tl)[i * 3 + 2]? = some (.int .i64 p.val) := by
              rw [List.getElem?_append_left (by rw [len_prs]; simp; omega)]
              exact flat_get len_prc (l := (R.take i).map (zeroP true) ++ p :: R.drop (i + 1)) (by rw [List.getElem?_append_right (by omega), hT, Nat.sub_self]; rfl) (by decide)
            have x2 := hW.cell hget
            have f2 := hW.frozen (i * 3 + 2)
            obtain ⟨hW2, hU2⟩ := whole_set hW (.int .i64 0) (i := i * 3 + 2) (by rw [hlen]; omega)
            rw [hset] at hW2
            have hii : (i : Int) < (R.length : Int) := by omega
            have HW2 := Lib.hid hW2
            have HU2 := Lib.hid hU2
            have HGB := Lib.hid hgb
            have HIG2 := Lib.hid hig
            have HLE : Hid (prs ((R.take (i + 1)).map (zeroP true) ++ R.drop (i + 1)) = prs ((R.take i).map (zeroP true) ++ zeroP true p :: R.drop (i + 1))) := by show _ = _; rw [next_of hp, List.map_append, List.append_assoc]; rfl
            have HLEN := Lib.hid hlen
            clear hW hW2 hU2 hgb hig hset hget hD hT e1 hlen hown hp hpe hc3
            go_wp2
            go_roundg (gk - 1)
            case measure => have := HIG2.out; omega
            case rel =>
              have hw := HW2.out
              refine ⟨i + 1, by have := HIG2.out; omega, by simp, ?_, ?_⟩
              · rw [HLE.out]
                refine whole_own hbg hw (by rw [len_prs]; simp; omega) hc1 hc2 ?_
                have h := HLEN.out
                rw [List.length_append, len_prs] at h ⊢
                simpa using h
              · exact by_upd HGB.out HU2.out (.inl rfl)
          · have hown' := hown
            rw [List.take_length, List.drop_length, List.append_nil] at hown'
            have HOZ := Lib.hid hown'
            have HGB := Lib.hid hgb
            clear hown hown' hgb hig
            go_wp2_with fail
            go_meet
            exact ⟨HOZ.out, HGB.out⟩
      case rest =>
      obtain ⟨hoz, hgz⟩ := hcut
      have hlt5 := HO5.out.lt
      have h55 := HB5.out.size
      have hsz := HSZD.out
      have hne : ∀ k, k < wd.heap.size → some k ≠ (Value.slice ka R.length kc).ownBlock := fun k hk e => by have := (hlt5 k e.symm).1; omega
      have t0 := hgz.cell (a := ⟨wo.heap.size, 0, none⟩) t0 (hne wo.heap.size (by omega))
      have t1 := hgz.cell (a := ⟨wo.heap.size, 1, none⟩) t1 (hne wo.heap.size (by omega))
      have t2 := hgz.cell (a := ⟨wo.heap.size, 2, none⟩) t2 (hne wo.heap.size (by omega))
      have t3 := hgz.cell (a := ⟨wo.heap.size, 3, none⟩) t3 (hne wo.heap.size (by omega))
      have t4 := hgz.cell (a := ⟨wo.heap.size, 4, none⟩) t4 (hne wo.heap.size (by omega))
      have t5 := hgz.cell (a := ⟨wo.heap.size, 5, none⟩) t5 (hne wo.heap.size (by omega))
      have t6 := hgz.cell (a := ⟨wo.heap.size, 6, none⟩) t6 (hne wo.heap.size (by omega))
      have hwr0 := HWR.out
      have y0 := hgz.cell (a := ⟨w.heap.size, 0, none⟩) y0 (hne w.heap.size (by omega))
      have y1 := hgz.cell (a := ⟨w.heap.size, 1, none⟩) y1 (hne w.heap.size (by omega))
      have HBX : Hid (Below wd.heap.size wd wc) := HB5.out.grown hgz h55 (fun k hk => (hlt5 k hk).1)
      have HOZ := Lib.hid hoz
      have HWAX := Lib.hid (HWA.out.grow HBX.out)
      have HBWX : Hid (Below wo.heap.size wo wc) := (HB1.out.trans (HGD.out.mono (by have := HAA.out; omega))).trans (HBX.out.mono (by omega))
      clear hlt5 h55 hsz hne hwr0 hoz hgz HWA HBOXD HBOX HO5 HB5
      have HKK' : Hid (∀ q ∈ R.map (zeroP true), I64 q.key) := by have h := HKK.out; rw [HKZ.out] at h; exact h
      have HKL' : Hid (R.length = wt ⟨op, sa, sk, st, sv, sc, sb⟩) := by have h := HKL.out; rw [HKZ.out, List.length_map] at h; exact h
      clear HKK HKL
      have hops : (op = 0 ∨ op = 5) ∨ (op = 1 ∨ op = 6) ∨ op = 2 ∨ op = 3 ∨ op = 4 := by
        have h1 : 0 ≤ op := HOK.out.lo
        have h2 : op ≤ 6 := HOK.out.hi
        omega
      have HOPS := Lib.hid hops
      clear hops
      go_upto_block 4 with (fail)
      go_cut [9] (fun s9 wx => SArm txt kk nn (w.heap.size + 1) ⟨op, sa, sk, st, sv, sc, sb⟩ ls l outs u10 (wts (ss.take i)) A wo s9 wx)
      case first =>
        rcases HOPS.out with hop | hop | rfl | rfl | rfl
        · have HNX : Hid (stepNext txt true kk nn l ⟨op, sa, sk, st, sv, sc, sb⟩ = some (putAll txt kk nn (R.map (zeroP true)) l)) := by rw [← HKZ.out]; exact stepNext_put hop
          rcases hop with rfl | rfl
          all_goals
            have hwn := gNew wc (.cells #[] 49)
            have HOWN0 : Hid ((wc.alloc (.cells #[] 49)).ownsRow wc.heap.size 49 3 (.slice (some ⟨wc.heap.size, 0, none⟩) 0 0) 0 []) := whole_own (tl := []) (Nat.le_refl _) (box_news wc #[] 49) rfl (Nat.le_refl _) (by simp [maxLen]) rfl
            have HSRC := Lib.hid (HVER.out.keep (fun _ h => h) (fun b hb => (HBWX.out.trans (hwn.mono HBWX.out.size)).block b (HRUN.out.lt b hb))).src
            have HLP : Hid ((prs l).length = l.length * 3) := len_prs l
            have HLN : Hid (l.length ≤ 20200) := by have h1 := HVOK.out.len; have h2 := HWTN.out; have h3 := HWTL.out; have h4 := HWTS.out; show _ ≤ _; omega
            have HMX : Hid (0 + l.length ≤ maxLen) := by show _ ≤ _; simp only [maxLen]; have := HLN.out; omega
            have HBYT : Hid ((0 + l.length) * 32 ≤ 140737488355328) := by show _ ≤ _; have := HLN.out; omega
            have HBASE := Lib.hid hwn.size
            have HWN := Lib.hid hwn
            clear hwn
            go_upto_region 24 with ((with_reducible refine at_slot 70 ?_); refine wpList_append_src _ rfl _ _ 38 rfl wc.heap.size 49 ip _ 3 32 Tryz.underlying38 hip hp0 hp1 hp2 rfl (by omega) _ 0 [] (by rfl) HOWN0.out (.slice pa l.length pc) l.length (prs l) (by rfl) HLP.out HSRC.out (oneP l) HMX.out HBYT.out HBASE.out ?_; intro v18 w6 hown6 hg6 hm6)
            have hb6 : Below wc.heap.size wc w6 := HWN.out.grown hg6 HWN.out.size (fun k hk => by simp [Value.ownBlock] at hk; omega)
            have HTURN0 : Hid (Turn txt kk nn true (R.map (zeroP true)) l (wts (ss.take i)) 0 l) := Turn.start HVOK.out
            have HO6 : Hid (w6.ownsRow wc.heap.size 49 3 v18 l.length (prs l)) := by have h := hown6; rw [Nat.zero_add, List.nil_append] at h; exact h
            have HB6 := Lib.hid hb6
            have HKROW : Hid (0 < R.length → ∃ b o, ka = some ⟨b, o, none⟩ ∧ Row wc b o (prs (R.map (zeroP true)))) := by
              obtain ⟨ka', kc', hke, _, hkrow⟩ := own_rowV HOZ.out
              injection hke with e1 e2 e3
              rw [e1]
              exact hkrow
            clear hb6 hown6 hg6 hm6 HOWN0 HSRC HMX HBYT HBASE
            go_upto_region 25 with (fail)
            go_loopg [18, 73] R.length (fun g s18 s73 wr => ∃ (n : Nat) (m : List Pr), n + g = R.length ∧ s73 = .int .i64 n ∧ Turn txt kk nn true (R.map (zeroP true)) l (wts (ss.take i)) n m ∧ wr.ownsRow wc.heap.size 49 3 s18 m.length (prs m) ∧ Below wc.heap.size wc wr)
            case atStart => exact ⟨0, l, by omega, rfl, HTURN0.out, HO6.out, HB6.out⟩
            case round =>
              obtain ⟨n, m, hig, rfl, htn, hown, hBq⟩ := hrel
              have hRL := HRL.out
              have hml : m.length ≤ 40400 := by have h1 := htn.ok.len; have h2 := HWTL.out; have h3 := HWTS.out; have h4 := HWTN.out; omega
              have hlt' : n < R.length ∨ n = R.length := by omega
              rcases hlt' with hlt | rfl
              · obtain ⟨kb, ko, rfl, hKR⟩ := HKROW.out (by omega)
                obtain ⟨⟨qk, qt, qv⟩, hq⟩ : ∃ q, (R.map (zeroP true))[n]? = some q := ⟨_, List.getElem?_eq_getElem (by rw [List.length_map]; exact hlt)⟩
                obtain ⟨c0, c1, c2⟩ := hKR.pr hq
                have s0 := gCell hBq c0
                have s1 := gCell hBq c1
                have s2 := gCell hBq c2
                have hgn := gNew wr (.cells #[.int .i64 qk, .string qt, .int .i64 qv] 49)
                have hbx := box_news wr #[.int .i64 qk, .string qt, .int .i64 qv] 49
                have u0 := hbx.cell (j := 0) rfl
                have u1 := hbx.cell (j := 1) rfl
                have u2 := hbx.cell (j := 2) rfl
                have hbq2 : Below wc.heap.size wc (wr.alloc (.cells #[.int .i64 qk, .string qt, .int .i64 qv] 49)) := hBq.trans (hgn.mono hBq.size)
                have t0q := gCell hbq2 t0
                have y0q := gCell hbq2 y0
                have y1q := gCell hbq2 y1
                have hnn : (n : Int) < (R.length : Int) := by omega
                have ho2 := hown.kept (below_by (g := none) hgn) (by cases Value.ownBlock _ <;> simp)
                have HPUT := Lib.hid (put_any txt kk nn m ⟨qk, qt, qv⟩ _ wc.heap.size (wr.alloc (.cells #[.int .i64 qk, .string qt, .int .i64 qv] 49)) HO.out htn.ok.srt htn.ok.key (HKK'.out _ (List.mem_of_getElem? hq)) (by omega) hbq2.size ho2)
                have HTN := Lib.hid htn
                have HQ := Lib.hid hq
                have HIG2 := Lib.hid hig
                have HBQ2 := Lib.hid hbq2
                have HLT2 := Lib.hid ho2.lt
                clear htn hown hBq hq hig c0 c1 c2 hKR hgn hbx hbq2 ho2
                go_wp2_with (go_at_call 32; refine HPUT.out.mono ?_; rintro e w7 ⟨v7, rfl, ho7, hg7, hm7⟩)
                go_roundg (gk - 1)
                case measure => have := HIG2.out; omega
                case rel =>
                  exact ⟨n + 1, ins (fP txt kk nn ⟨qk, qt, qv⟩) ⟨qk, qt, qv⟩ m, by have := HIG2.out; omega, by simp, HTN.out.put HQ.out (HKK'.out _ (List.mem_of_getElem? HQ.out)), ho7, HBQ2.out.grown hg7 HBQ2.out.size (fun k hk => (HLT2.out k hk).1)⟩
              · have hE := Turn.puts (by rw [List.length_map]; exact htn)
                have HNX2 := Lib.hid (HNX.out.trans (congrArg some hE.symm))
                have hvm := htn.ok
                rw [HKL'.out] at hvm
                have HVM := Lib.hid hvm
                clear hvm
                clear hE
                obtain ⟨va, vc, hve, _, _⟩ := own_rowV hown
                subst hve
                have hrq := (HRUN.out.grow HBWX.out).plus hBq
                have hgn7 := gNew wr (.cells #[.slice va m.length vc] 38)
                have hr7 := hrq.grow hgn7
                obtain ⟨ps, r1, r2, r3⟩ := hr7.row
                have HR2 := Lib.hid r2
                have HR13 := Lib.hid (And.intro r1 r3)
                have HN7 := Lib.hid (news_of (box_news wr #[.slice va m.length vc] 38))
                have HBASE := Lib.hid hr7.big
                have HONE : Hid (∀ u ∈ [Value.slice va m.length vc], u.oneCell' = true) := by intro u hu; simp only [List.mem_cons, List.not_mem_nil, or_false] at hu; subst hu; rfl
                have hl1 := HBND.out.2.1
                have HMX : Hid (ls.length + 1 ≤ maxLen) := by show _ ≤ _; simp only [maxLen]; omega
                have HBYT : Hid ((ls.length + 1) * 24 ≤ 140737488355328) := by show _ ≤ _; omega
                have HGN7 := Lib.hid hgn7
                have HOWN := Lib.hid hown
                have HBQ := Lib.hid hBq
                have HAX : Hid (wo.heap.size ≤ A ∧ A < wc.heap.size ∧ (Value.slice (some ⟨g9, 0, none⟩) ls.length cap9).ownBlock ≠ some A) := by
                  obtain ⟨_, _, hlt9, _⟩ := HRUN.out.row
                  have := HAA.out
                  have := HWAX.out.lt
                  exact ⟨by omega, this, fun e => by have := (hlt9.lt _ e).2; omega⟩
                clear hown hBq hrq hgn7 hr7 r1 r2 r3 hl1 htn hig
                go_upto_region 32 with ((with_reducible refine at_slot 99 ?_); refine wpList_append_moved _ rfl _ _ 95 rfl (w.heap.size + 1) 38 im _ 1 24 Tryz.underlying95 him hm0 hm1 hm2 rfl (by omega) _ ls.length ps (by rfl) HR2.out ⟨wr.heap.size, 0, none⟩ 1 1 [.slice va m.length vc] (by rfl) rfl HN7.out HONE.out HMX.out HBYT.out HBASE.out ?_; intro v9' w8 hown8 hg8 hm8)
                have hW8 : Whole w8 A [.int .i64 0, .int .i64 0, .bool false, .slice none 0 0] 94 := (hg8.block A (by have := HAX.out.2.1; have := HBQ.out.size; have := HGN7.out.size; omega) (fun e => HAX.out.2.2 e.symm)).trans ((HWAX.out.grow HBQ.out).grow HGN7.out)
                have x1 := hW8.cell (j := 1) rfl
                have f1 := hW8.frozen 1
                have HG8 := Lib.hid hg8
                have HM8 := Lib.hid hm8
                have HOW8 := Lib.hid hown8
                clear hW8 hown8 hg8 hm8
                go_wp2_with fail
                go_meet
                exact sarm_new HRUN.out HBWX.out HAX.out.1 HAX.out.2.1 HWAX.out HBQ.out HOWN.out HGN7.out HR13.out.1 HR2.out HR13.out.2 HG8.out HM8.out HOW8.out HNX2.out HVM.out
        · have HNX : Hid (stepNext txt true kk nn l ⟨op, sa, sk, st, sv, sc, sb⟩ = some (dropAll txt kk nn (R.map (zeroP true)) l)) := by rw [← HKZ.out]; exact stepNext_drop hop
          rcases hop with rfl | rfl
          all_goals
            have hwn := gNew wc (.cells #[] 49)
            have HOWN0 : Hid ((wc.alloc (.cells #[] 49)).ownsRow wc.heap.size 49 3 (.slice (some ⟨wc.heap.size, 0, none⟩) 0 0) 0 []) := whole_own (tl := []) (Nat.le_refl _) (box_news wc #[] 49) rfl (Nat.le_refl _) (by simp [maxLen]) rfl
            have HSRC := Lib.hid (HVER.out.keep (fun _ h => h) (fun b hb => (HBWX.out.trans (hwn.mono HBWX.out.size)).block b (HRUN.out.lt b hb))).src
            have HLP : Hid ((prs l).length = l.length * 3) := len_prs l
            have HLN : Hid (l.length ≤ 20200) := by have h1 := HVOK.out.len; have h2 := HWTN.out; have h3 := HWTL.out; have h4 := HWTS.out; show _ ≤ _; omega
            have HMX : Hid (0 + l.length ≤ maxLen) := by show _ ≤ _; simp only [maxLen]; have := HLN.out; omega
            have HBYT : Hid ((0 + l.length) * 32 ≤ 140737488355328) := by show _ ≤ _; have := HLN.out; omega
            have HBASE := Lib.hid hwn.size
            have HWN := Lib.hid hwn
            clear hwn
            go_upto_region 24 with ((with_reducible refine at_slot 70 ?_); refine wpList_append_src _ rfl _ _ 38 rfl wc.heap.size 49 ip _ 3 32 Tryz.underlying38 hip hp0 hp1 hp2 rfl (by omega) _ 0 [] (by rfl) HOWN0.out (.slice pa l.length pc) l.length (prs l) (by rfl) HLP.out HSRC.out (oneP l) HMX.out HBYT.out HBASE.out ?_; intro v18 w6 hown6 hg6 hm6)
            have hb6 : Below wc.heap.size wc w6 := HWN.out.grown hg6 HWN.out.size (fun k hk => by simp [Value.ownBlock] at hk; omega)
            have HTURN0 : Hid (Turn txt kk nn false (R.map (zeroP true)) l (wts (ss.take i)) 0 l) := Turn.start HVOK.out
            have HO6 : Hid (w6.ownsRow wc.heap.size 49 3 v18 l.length (prs l)) := by have h := hown6; rw [Nat.zero_add, List.nil_append] at h; exact h
            have HB6 := Lib.hid hb6
            have HKROW : Hid (0 < R.length → ∃ b o, ka = some ⟨b, o, none⟩ ∧ Row wc b o (prs (R.map (zeroP true)))) := by
              obtain ⟨ka', kc', hke, _, hkrow⟩ := own_rowV HOZ.out
              injection hke with e1 e2 e3
              rw [e1]
              exact hkrow
            clear hb6 hown6 hg6 hm6 HOWN0 HSRC HMX HBYT HBASE
            go_upto_region 25 with (fail)
            go_loopg [18, 73] R.length (fun g s18 s73 wr => ∃ (n : Nat) (m : List Pr), n + g = R.length ∧ s73 = .int .i64 n ∧ Turn txt kk nn false (R.map (zeroP true)) l (wts (ss.take i)) n m ∧ wr.ownsRow wc.heap.size 49 3 s18 m.length (prs m) ∧ Below wc.heap.size wc wr)
            case atStart => exact ⟨0, l, by omega, rfl, HTURN0.out, HO6.out, HB6.out⟩
            case round =>
              obtain ⟨n, m, hig, rfl, htn, hown, hBq⟩ := hrel
              have hRL := HRL.out
              have hml : m.length ≤ 40400 := by have h1 := htn.ok.len; have h2 := HWTL.out; have h3 := HWTS.out; have h4 := HWTN.out; omega
              have hlt' : n < R.length ∨ n = R.length := by omega
              rcases hlt' with hlt | rfl
              · obtain ⟨kb, ko, rfl, hKR⟩ := HKROW.out (by omega)
                obtain ⟨⟨qk, qt, qv⟩, hq⟩ : ∃ q, (R.map (zeroP true))[n]? = some q := ⟨_, List.getElem?_eq_getElem (by rw [List.length_map]; exact hlt)⟩
                obtain ⟨c0, c1, c2⟩ := hKR.pr hq
                have s0 := gCell hBq c0
                have s1 := gCell hBq c1
                have s2 := gCell hBq c2
                have hgn := gNew wr (.cells #[.int .i64 qk, .string qt, .int .i64 qv] 49)
                have hbx := box_news wr #[.int .i64 qk, .string qt, .int .i64 qv] 49
                have u0 := hbx.cell (j := 0) rfl
                have u1 := hbx.cell (j := 1) rfl
                have u2 := hbx.cell (j := 2) rfl
                have hbq2 : Below wc.heap.size wc (wr.alloc (.cells #[.int .i64 qk, .string qt, .int .i64 qv] 49)) := hBq.trans (hgn.mono hBq.size)
                have t0q := gCell hbq2 t0
                have y0q := gCell hbq2 y0
                have y1q := gCell hbq2 y1
                have hnn : (n : Int) < (R.length : Int) := by omega
                have ho2 := hown.kept (below_by (g := none) hgn) (by cases Value.ownBlock _ <;> simp)
                have HPUT := Lib.hid (drop_any txt kk nn m ⟨qk, qt, qv⟩ _ wc.heap.size (wr.alloc (.cells #[.int .i64 qk, .string qt, .int .i64 qv] 49)) HO.out htn.ok.srt htn.ok.key (HKK'.out _ (List.mem_of_getElem? hq)) (by omega) hbq2.size ho2)
                have HTN := Lib.hid htn
                have HQ := Lib.hid hq
                have HIG2 := Lib.hid hig
                have HBQ2 := Lib.hid hbq2
                have HLT2 := Lib.hid ho2.lt
                clear htn hown hBq hq hig c0 c1 c2 hKR hgn hbx hbq2 ho2
                go_wp2_with (go_at_call 33; refine HPUT.out.mono ?_; rintro e w7 ⟨v7, rfl, ho7, hg7, hm7⟩)
                go_roundg (gk - 1)
                case measure => have := HIG2.out; omega
                case rel =>
                  exact ⟨n + 1, del (fP txt kk nn ⟨qk, qt, qv⟩) m, by have := HIG2.out; omega, by simp, HTN.out.drop HQ.out, ho7, HBQ2.out.grown hg7 HBQ2.out.size (fun k hk => (HLT2.out k hk).1)⟩
              · have hE := Turn.drops (by rw [List.length_map]; exact htn)
                have HNX2 := Lib.hid (HNX.out.trans (congrArg some hE.symm))
                have hvm := htn.ok
                rw [HKL'.out] at hvm
                have HVM := Lib.hid hvm
                clear hvm
                clear hE
                obtain ⟨va, vc, hve, _, _⟩ := own_rowV hown
                subst hve
                have hrq := (HRUN.out.grow HBWX.out).plus hBq
                have hgn7 := gNew wr (.cells #[.slice va m.length vc] 38)
                have hr7 := hrq.grow hgn7
                obtain ⟨ps, r1, r2, r3⟩ := hr7.row
                have HR2 := Lib.hid r2
                have HR13 := Lib.hid (And.intro r1 r3)
                have HN7 := Lib.hid (news_of (box_news wr #[.slice va m.length vc] 38))
                have HBASE := Lib.hid hr7.big
                have HONE : Hid (∀ u ∈ [Value.slice va m.length vc], u.oneCell' = true) := by intro u hu; simp only [List.mem_cons, List.not_mem_nil, or_false] at hu; subst hu; rfl
                have hl1 := HBND.out.2.1
                have HMX : Hid (ls.length + 1 ≤ maxLen) := by show _ ≤ _; simp only [maxLen]; omega
                have HBYT : Hid ((ls.length + 1) * 24 ≤ 140737488355328) := by show _ ≤ _; omega
                have HGN7 := Lib.hid hgn7
                have HOWN := Lib.hid hown
                have HBQ := Lib.hid hBq
                have HAX : Hid (wo.heap.size ≤ A ∧ A < wc.heap.size ∧ (Value.slice (some ⟨g9, 0, none⟩) ls.length cap9).ownBlock ≠ some A) := by
                  obtain ⟨_, _, hlt9, _⟩ := HRUN.out.row
                  have := HAA.out
                  have := HWAX.out.lt
                  exact ⟨by omega, this, fun e => by have := (hlt9.lt _ e).2; omega⟩
                clear hown hBq hrq hgn7 hr7 r1 r2 r3 hl1 htn hig
                go_upto_region 32 with ((with_reducible refine at_slot 99 ?_); refine wpList_append_moved _ rfl _ _ 95 rfl (w.heap.size + 1) 38 im _ 1 24 Tryz.underlying95 him hm0 hm1 hm2 rfl (by omega) _ ls.length ps (by rfl) HR2.out ⟨wr.heap.size, 0, none⟩ 1 1 [.slice va m.length vc] (by rfl) rfl HN7.out HONE.out HMX.out HBYT.out HBASE.out ?_; intro v9' w8 hown8 hg8 hm8)
                have hW8 : Whole w8 A [.int .i64 0, .int .i64 0, .bool false, .slice none 0 0] 94 := (hg8.block A (by have := HAX.out.2.1; have := HBQ.out.size; have := HGN7.out.size; omega) (fun e => HAX.out.2.2 e.symm)).trans ((HWAX.out.grow HBQ.out).grow HGN7.out)
                have x1 := hW8.cell (j := 1) rfl
                have f1 := hW8.frozen 1
                have HG8 := Lib.hid hg8
                have HM8 := Lib.hid hm8
                have HOW8 := Lib.hid hown8
                clear hW8 hown8 hg8 hm8
                go_wp2_with fail
                go_meet
                exact sarm_new HRUN.out HBWX.out HAX.out.1 HAX.out.2.1 HWAX.out HBQ.out HOWN.out HGN7.out HR13.out.1 HR2.out HR13.out.2 HG8.out HM8.out HOW8.out HNX2.out HVM.out
        · have HRZ : Hid (R.map (zeroP true) = [zeroP true (keyP txt ⟨sk, st, sv⟩)]) := by rw [← HKZ.out]; exact keys_one (by show ¬ ((2 : Int) = 5 ∨ (2 : Int) = 6); omega)
          have HNO : Hid (stepNext txt true kk nn l ⟨2, sa, sk, st, sv, sc, sb⟩ = none) := stepNext_none (by unfold NewV; show ¬ ((2 : Int) = 0 ∨ (2 : Int) = 1 ∨ (2 : Int) = 5 ∨ (2 : Int) = 6); omega)
          have HSAY : Hid (stepSays txt true kk nn l ⟨2, sa, sk, st, sv, sc, sb⟩ = stepLook txt true kk nn l ⟨2, sa, sk, st, sv, sc, sb⟩) := stepSays_look rfl
          have HLK : Hid (∀ r, Lst.look (fP txt kk nn (zeroP true (keyP txt ⟨sk, st, sv⟩))) l = r → stepLook txt true kk nn l ⟨2, sa, sk, st, sv, sc, sb⟩ = match r with | some p => ⟨p.val, 0, true, []⟩ | none => an0) := by
            rintro r rfl
            rfl
          generalize zeroP true (keyP txt ⟨sk, st, sv⟩) = q at *
          have hq0 : (R.map (zeroP true))[0]? = some q := by rw [HRZ.out]; rfl
          have hR1 : 0 < R.length := by have h := congrArg List.length HRZ.out; rw [List.length_map] at h; simp at h; omega
          have hqk := HKK'.out q (List.mem_of_getElem? hq0)
          obtain ⟨kb, ko, hke, hKR⟩ : ∃ b o, ka = some ⟨b, o, none⟩ ∧ Row wc b o (prs (R.map (zeroP true))) := by
            obtain ⟨ka', kc', hke, _, hkrow⟩ := own_rowV HOZ.out
            injection hke with e1 e2 e3
            rw [e1]
            exact hkrow hR1
          subst hke
          obtain ⟨c0, c1, c2⟩ := hKR.pr hq0
          simp only [Nat.zero_mul, Nat.add_zero] at c0 c1 c2
          have hr1 : (0 : Int) < (R.length : Int) := by omega
          have HLN : Hid (l.length ≤ 20200) := by have h1 := HVOK.out.len; have h2 := HWTN.out; have h3 := HWTL.out; have h4 := HWTS.out; show _ ≤ _; omega
          have hverw := HVER.out.keep (fun _ h => h) (fun b hb => HBWX.out.block b (HRUN.out.lt b hb))
          have HPL := Lib.hid (fun (W : World) (hW : Below wc.heap.size wc W) => place_any txt kk nn l q (.slice pa l.length pc) W HO.out HVOK.out.srt HVOK.out.key hqk (by have := HLN.out; omega) (hverw.rowS.v.grow hW))
          have HHAS : Hid (∀ p, has (fP txt kk nn q) l = true → l[pos (fP txt kk nn q) l]? = some p → Lst.look (fP txt kk nn q) l = some p) := fun p h1 h2 => look_has h1 h2
          have HHASN : Hid (has (fP txt kk nn q) l = false → Lst.look (fP txt kk nn q) l = none) := look_not
          have HPLT : Hid (has (fP txt kk nn q) l = true → pos (fP txt kk nn q) l < l.length) := fun h => (has_true h).1
          have HVERW := Lib.hid hverw
          generalize Lst.look (fP txt kk nn q) l = LK at *
          generalize pos (fP txt kk nn q) l = PP at *
          generalize has (fP txt kk nn q) l = HH at *
          obtain ⟨qk, qt, qv⟩ := q
          have HAA2 : Hid (wo.heap.size ≤ A ∧ A < wc.heap.size) := by have := HAA.out; have := HWAX.out.lt; exact ⟨by omega, this⟩
          clear hverw hq0 hqk hKR
          go_upto_region 34 with (fail)
          go_region_held3 (fun W : World => W.cell? ⟨w.heap.size, 0, none⟩ = some (.int .u8 kk) ∧ W.cell? ⟨w.heap.size, 1, none⟩ = some (.int .i64 nn) ∧ W.cell? ⟨kb, ko, none⟩ = some (.int .i64 qk) ∧ W.cell? ⟨kb, ko + 1, none⟩ = some (.string qt) ∧ W.cell? ⟨kb, ko + 2, none⟩ = some (.int .i64 qv))
            (first | exact ⟨y0, y1, c0, c1, c2⟩ | exact K5.out)
            ((first | (go_at_call 34; refine (HPL.out _ (below_drew (gRefl wc))).mono ?_; rintro e w6 ⟨rfl, hB6⟩; have hb6 := gTrans (below_drew (gRefl wc)) hB6; have K5 := Lib.hid (And.intro (gCell hb6 y0) (And.intro (gCell hb6 y1) (And.intro (gCell hb6 c0) (And.intro (gCell hb6 c1) (gCell hb6 c2))))); have HB6 := Lib.hid hb6; clear hB6 hb6)))
          have HW6 := Lib.hid (HWAX.out.grow HB6.out)
          have hbut : But wc.heap.size A A wc w6 := But.of_below HB6.out
          cases HH
          · go_wp2_with fail
            go_meet
            exact sarm_old HRUN.out HBWX.out HAA2.out.1 HAA2.out.2 hbut HNO.out (by rw [HSAY.out, HLK.out _ (HHASN.out (by simp))]) (lv := .slice none 0 0) HW6.out rfl ⟨none, 0, rfl, Nat.le_refl _, fun h => absurd h (Nat.lt_irrefl _)⟩
          · have hpl : PP < l.length := HPLT.out (by simp)
            obtain ⟨va, vc, hve, hvc, hvr⟩ := HVERW.out.rowS
            injection hve with e1 e2 e3
            obtain ⟨vb, vo, hvb, hSv, hrow⟩ := hvr (by omega)
            rw [← e1] at hvb
            subst hvb
            obtain ⟨⟨pk, pt, pv⟩, hp⟩ : ∃ p, l[PP]? = some p := ⟨_, List.getElem?_eq_getElem hpl⟩
            obtain ⟨d0, d1, d2⟩ := (hrow.grow HB6.out).pr hp
            have hpi : (PP : Int) < (l.length : Int) := by omega
            have x0 := HW6.out.cell (j := 0) rfl
            have f0 := HW6.out.frozen 0
            have x2 := HW6.out.cell (j := 2) rfl
            have f2 := HW6.out.frozen 2
            obtain ⟨hW7, hU7⟩ := whole_set HW6.out (.int .i64 pv) (i := 0) (by simp)
            obtain ⟨hW8, hU8⟩ := whole_set hW7 (.bool true) (i := 2) (by simp)
            have HLKP := Lib.hid (HHAS.out _ (by simp) hp)
            have HW8 := Lib.hid hW8
            have HU8 := Lib.hid (hU7.trans hU8)
            clear hW7 hU7 hW8 hU8 hp hrow hvr hSv d0 d1 e1 e2 e3 hvc HVERW
            go_wp2_with fail
            go_meet
            refine sarm_old HRUN.out HBWX.out HAA2.out.1 HAA2.out.2 (hbut.trans ⟨HU8.out.by_.os, HU8.out.by_.tape, HU8.out.by_.output, by rw [HU8.out.size]; exact Nat.le_refl _, fun k hk h1 _ => HU8.out.heap h1⟩) HNO.out (an := ⟨pv, 0, true, []⟩) (by rw [HSAY.out, HLK.out _ HLKP.out]) (lv := .slice none 0 0) HW8.out rfl ⟨none, 0, rfl, Nat.le_refl _, fun h => absurd h (Nat.lt_irrefl _)⟩
        · have HNO : Hid (stepNext txt true kk nn l ⟨3, sa, sk, st, sv, sc, sb⟩ = none) := stepNext_none (by unfold NewV; show ¬ ((3 : Int) = 0 ∨ (3 : Int) = 1 ∨ (3 : Int) = 5 ∨ (3 : Int) = 6); omega)
          have HSAY : Hid (stepSays txt true kk nn l ⟨3, sa, sk, st, sv, sc, sb⟩ = ⟨0, l.length, false, l⟩) := stepSays_list rfl
          have HAA2 : Hid (wo.heap.size ≤ A ∧ A < wc.heap.size) := by have := HAA.out; have := HWAX.out.lt; exact ⟨by omega, this⟩
          have hwn := gNew wc (.cells #[] 49)
          have HOWN0 : Hid ((wc.alloc (.cells #[] 49)).ownsRow wc.heap.size 49 3 (.slice (some ⟨wc.heap.size, 0, none⟩) 0 0) 0 []) := whole_own (tl := []) (Nat.le_refl _) (box_news wc #[] 49) rfl (Nat.le_refl _) (by simp [maxLen]) rfl
          have HSRC := Lib.hid (HVER.out.keep (fun _ h => h) (fun b hb => (HBWX.out.trans (hwn.mono HBWX.out.size)).block b (HRUN.out.lt b hb))).src
          have HLP : Hid ((prs l).length = l.length * 3) := len_prs l
          have HLN : Hid (l.length ≤ 20200) := by have h1 := HVOK.out.len; have h2 := HWTN.out; have h3 := HWTL.out; have h4 := HWTS.out; show _ ≤ _; omega
          have HMX : Hid (0 + l.length ≤ maxLen) := by show _ ≤ _; simp only [maxLen]; have := HLN.out; omega
          have HBYT : Hid ((0 + l.length) * 32 ≤ 140737488355328) := by show _ ≤ _; have := HLN.out; omega
          have HBASE := Lib.hid hwn.size
          have HWN := Lib.hid hwn
          clear hwn
          go_wp2_with ((with_reducible refine at_slot 127 ?_); refine wpList_append_src _ rfl _ _ 38 rfl wc.heap.size 49 ip _ 3 32 Tryz.underlying38 hip hp0 hp1 hp2 rfl (by omega) _ 0 [] (by rfl) HOWN0.out (.slice pa l.length pc) l.length (prs l) (by rfl) HLP.out HSRC.out (oneP l) HMX.out HBYT.out HBASE.out ?_; intro v6 w6 hown6 hg6 hm6; rw [Nat.zero_add, List.nil_append] at hown6; obtain ⟨va, vc, rfl, hvc6, hvr6⟩ := own_rowV hown6; clear hvc6 hvr6; have hb6 := HWN.out.grown hg6 HWN.out.size (fun k hk => by simp [Value.ownBlock] at hk; omega); have hW6 := HWAX.out.grow hb6; have x3 := hW6.cell (j := 3) rfl; have f3 := hW6.frozen 3; have x1 := hW6.cell (j := 1) rfl; have f1 := hW6.frozen 1; have HW6 := Lib.hid hW6; have HB6 := Lib.hid hb6; have HO6 := Lib.hid hown6; clear hown6 hg6 hm6 hb6 hW6)
          go_meet
          obtain ⟨hW7, hU7⟩ := whole_set HW6.out (.slice va l.length vc) (i := 3) (by simp)
          obtain ⟨hW8, hU8⟩ := whole_set hW7 (.int .i64 l.length) (i := 1) (by simp)
          have hU := hU7.trans hU8
          have hlt6 := HO6.out.lt
          exact sarm_old HRUN.out HBWX.out HAA2.out.1 HAA2.out.2 ((But.of_below HB6.out).trans ⟨hU.by_.os, hU.by_.tape, hU.by_.output, by rw [hU.size]; exact Nat.le_refl _, fun k hk h1 _ => hU.heap h1⟩) HNO.out HSAY.out (lv := .slice va l.length vc) hW8 rfl
            ((own_rowS HO6.out (S := fun b => wc.heap.size ≤ b ∧ b < w6.heap.size) (fun k hk => hlt6 k hk)).keep (fun b h => ⟨h.1, by rw [hU.size]; exact h.2⟩) (fun b hb => hU.heap (by have := HAA2.out; omega)))
        · have HNO : Hid (stepNext txt true kk nn l ⟨4, sa, sk, st, sv, sc, sb⟩ = none) := stepNext_none (by unfold NewV; show ¬ ((4 : Int) = 0 ∨ (4 : Int) = 1 ∨ (4 : Int) = 5 ∨ (4 : Int) = 6); omega)
          have HSAY : Hid (stepSays txt true kk nn l ⟨4, sa, sk, st, sv, sc, sb⟩ = ⟨0, l.length, false, l.reverse⟩) := stepSays_back rfl
          have HAA2 : Hid (wo.heap.size ≤ A ∧ A < wc.heap.size) := by have := HAA.out; have := HWAX.out.lt; exact ⟨by omega, this⟩
          have HLN : Hid (l.length ≤ 20200) := by have h1 := HVOK.out.len; have h2 := HWTN.out; have h3 := HWTL.out; have h4 := HWTS.out; show _ ≤ _; omega
          have HVROW : Hid (0 < l.length → ∃ b o, pa = some ⟨b, o, none⟩ ∧ b < wo.heap.size ∧ Row wc b o (prs l)) := by
            intro h0
            obtain ⟨va, vc, hve, hvc, hvr⟩ := HVER.out.rowS
            injection hve with e1 e2 e3
            obtain ⟨vb, vo, hvb, hSv, hrow⟩ := hvr h0
            exact ⟨vb, vo, by rw [e1]; exact hvb, HRUN.out.lt vb hSv, hrow.grow HBWX.out⟩
          go_upto_region 41 with (fail)
          go_loopg [136] l.length (fun g s136 wr => ∃ (n : Nat) (lv : Value), n + g = l.length ∧ s136 = .int .i64 n ∧ Whole wr A [.int .i64 0, .int .i64 0, .bool false, lv] 94 ∧ lv.oneCell' = true ∧ wr.ownsRow wc.heap.size 49 3 lv n (prs (l.reverse.take n)) ∧ But wc.heap.size A A wc wr)
          case atStart => exact ⟨0, .slice none 0 0, by omega, rfl, HWAX.out, rfl, World.ownsRow_nil _ _ _ _, But.refl _ _ _ _⟩
          case round =>
            obtain ⟨n, lv, hig, rfl, hWl, hlv, hown, hbut⟩ := hrel
            obtain ⟨la, lc, hle, _, _⟩ := own_rowV hown
            subst hle
            have hll := HLN.out
            have hAA := HAA2.out
            have hlt' : n < l.length ∨ n = l.length := by omega
            rcases hlt' with hlt | rfl
            · obtain ⟨j', hj'⟩ : ∃ j', j' + n + 1 = l.length := ⟨l.length - n - 1, by omega⟩
              obtain ⟨vb, vo, rfl, hvb, hrow⟩ := HVROW.out (by omega)
              obtain ⟨⟨pk, pt, pv⟩, hp⟩ : ∃ p, l[j']? = some p := ⟨_, List.getElem?_eq_getElem (by omega)⟩
              obtain ⟨d0, d1, d2⟩ := hrow.pr hp
              have d0 := hbut.cell (p := ⟨vb, vo + j' * 3, none⟩) (by show vb < _; omega) (by show vb ≠ A; omega) (by show vb ≠ A; omega) d0
              have d1 := hbut.cell (p := ⟨vb, vo + j' * 3 + 1, none⟩) (by show vb < _; omega) (by show vb ≠ A; omega) (by show vb ≠ A; omega) d1
              have d2 := hbut.cell (p := ⟨vb, vo + j' * 3 + 2, none⟩) (by show vb < _; omega) (by show vb ≠ A; omega) (by show vb ≠ A; omega) d2
              have hw1 : IntKind.i64.wrap ((l.length : Int) - 1) = (l.length : Int) - 1 := IntWalk.i64_in _ (by omega)
              have hw2 : IntKind.i64.wrap ((l.length : Int) - 1 - (n : Int)) = (j' : Int) := by rw [IntWalk.i64_in _ (by omega)]; omega
              have hjl2 : (j' : Int) < (l.length : Int) := by omega
              have hnl : (n : Int) < (l.length : Int) := by omega
              have HREV : Hid (l.reverse.take (n + 1) = l.reverse.take n ++ [⟨pk, pt, pv⟩]) := next_of (by rw [List.getElem?_reverse (by omega), show l.length - 1 - n = j' by omega]; exact hp)
              have x3 := hWl.cell (j := 3) rfl
              have f3 := hWl.frozen 3
              have hgn : Below wr.heap.size wr (wr.alloc (.cells #[.int .i64 pk, .string pt, .int .i64 pv] 49)).drew := below_drew (gNew wr _)
              have d0d : wr.drew.cell? ⟨vb, vo + j' * 3, none⟩ = some (.int .i64 pk) := d0
              have d1d : wr.drew.cell? ⟨vb, vo + j' * 3 + 1, none⟩ = some (.string pt) := d1
              have d2d : wr.drew.cell? ⟨vb, vo + j' * 3 + 2, none⟩ = some (.int .i64 pv) := d2
              have hWg := hWl.grow hgn
              have x3g := hWg.cell (j := 3) rfl
              have x3d : wr.drew.cell? ⟨A, 3, none⟩ = some (.slice la n lc) := x3
              have HWG := Lib.hid hWg
              have HO := Lib.hid (hown.kept (below_by (g := none) hgn) (by cases Value.ownBlock _ <;> simp))
              have hbx : Whole (wr.alloc (.cells #[.int .i64 pk, .string pt, .int .i64 pv] 49)).drew wr.heap.size [.int .i64 pk, .string pt, .int .i64 pv] 49 := box_news wr #[.int .i64 pk, .string pt, .int .i64 pv] 49
              have HN := Lib.hid (news_of hbx)
              have HONE : Hid (∀ u ∈ Pr.cells ⟨pk, pt, pv⟩, u.oneCell' = true) := oneC _
              have HMX : Hid (n + 1 ≤ maxLen) := by show _ ≤ _; simp only [maxLen]; omega
              have HBYT : Hid ((n + 1) * 32 ≤ 140737488355328) := by show _ ≤ _; omega
              have HBASE : Hid (wc.heap.size ≤ (wr.alloc (.cells #[.int .i64 pk, .string pt, .int .i64 pv] 49)).drew.heap.size) := Nat.le_trans hbut.size hgn.size
              have hlto := hown.lt
              have HNE : Hid (∀ k, (Value.slice la n lc).ownBlock = some k → k ≠ A ∧ k ≠ vb ∧ wc.heap.size ≤ k) := fun k hk => by have := (hlto k hk).1; exact ⟨by omega, by omega, this⟩
              have HVB : Hid (vb ≠ A) := by show vb ≠ A; omega
              have HBUT := Lib.hid hbut
              have HIG2 := Lib.hid hig
              have HASZ : Hid (A < (wr.alloc (.cells #[.int .i64 pk, .string pt, .int .i64 pv] 49)).drew.heap.size) := Nat.lt_of_lt_of_le hAA.2 HBASE.out
              clear hbx hWl hWg hown hbut hig hgn hlto hrow hp hvb
              go_upto_region 43 with (fail)
              go_region_law (rw [if_pos (by rfl)]; refine wp_append_moved _ _ 38 rfl wc.heap.size 49 ip _ 3 32 Tryz.underlying38 hip hp0 hp1 hp2 rfl (by omega) _ n (prs (l.reverse.take n)) (by rfl) HO.out ⟨wr.heap.size, 0, none⟩ 1 1 (Pr.cells ⟨pk, pt, pv⟩) (by rfl) rfl HN.out HONE.out HMX.out HBYT.out HBASE.out ?_; intro v3 w3 hown3 hg3 hm3; obtain ⟨va3, vc3, rfl, hvc3, hvr3⟩ := own_rowV hown3; clear hvc3 hvr3; have hW3 : Whole w3 A [.int .i64 0, .int .i64 0, .bool false, .slice la n lc] 94 := (hg3.block A HASZ.out (fun e => (HNE.out A e.symm).1 rfl)).trans HWG.out; have x3w := hW3.cell (j := 3) rfl; have f3w := hW3.frozen 3; have HW3 := Lib.hid hW3; have HO3 := Lib.hid hown3; have HG3 := Lib.hid hg3; clear hW3 hown3 hg3 hm3)
              all_goals
                go_wp2
                go_roundg (gk - 1)
                case measure => have := HIG2.out; omega
                case rel =>
                  obtain ⟨hW4, hU4⟩ := whole_set HW3.out (.slice va3 (n + 1) vc3) (i := 3) (by simp)
                  have hb3 : But wc.heap.size A A wc w3 := (HBUT.out.trans (But.of_below ((below_drew (gNew wr (.cells #[.int .i64 pk, .string pt, .int .i64 pv] 49))).mono HBUT.out.size))).trans ⟨HG3.out.os, HG3.out.tape, HG3.out.output, HG3.out.size, fun k hk _ _ => HG3.out.block k (Nat.lt_of_lt_of_le hk HBASE.out) (fun e => by have := (HNE.out k e.symm).2.2; omega)⟩
                  refine ⟨n + 1, .slice va3 (n + 1) vc3, by have := HIG2.out; omega, by simp, hW4, rfl, ?_, hb3.trans ⟨hU4.by_.os, hU4.by_.tape, hU4.by_.output, by rw [hU4.size]; exact Nat.le_refl _, fun k hk h1 _ => hU4.heap h1⟩⟩
                  rw [HREV.out]
                  simp only [prs, List.flatMap_append, List.flatMap_cons, List.flatMap_nil, List.append_nil]
                  refine own_same HO3.out (fun k hk => hU4.heap (fun e => ?_))
                  have h1 := (HO3.out.lt k hk).1
                  have h2 := HAA2.out
                  omega
            · have hre : l.reverse.take l.length = l.reverse := by rw [← List.length_reverse, List.take_length]
              rw [hre] at hown
              have x1 := hWl.cell (j := 1) rfl
              have f1 := hWl.frozen 1
              have HWL := Lib.hid hWl
              have HOWN := Lib.hid hown
              have HBUT := Lib.hid hbut
              clear hWl hown hbut hre hig
              go_wp2_with fail
              go_meet
              obtain ⟨hW4, hU4⟩ := whole_set HWL.out (.int .i64 l.length) (i := 1) (by simp)
              have hlt := HOWN.out.lt
              exact sarm_old HRUN.out HBWX.out hAA.1 hAA.2 (HBUT.out.trans ⟨hU4.by_.os, hU4.by_.tape, hU4.by_.output, by rw [hU4.size]; exact Nat.le_refl _, fun k hk h1 _ => hU4.heap h1⟩) HNO.out HSAY.out (lv := .slice la l.length lc) hW4 rfl (by
                rw [List.length_reverse]
                exact (own_rowS HOWN.out (S := fun b => wc.heap.size ≤ b ∧ b < wr.heap.size) (fun k hk => hlt k hk)).keep (fun b h => ⟨h.1, by rw [hU4.size]; exact h.2⟩) (fun b hb => hU4.heap (by omega)))
      case rest =>
      obtain ⟨S', lv, hBx, hWx, hlv, hrunx, hvx, hrsx, hnA, h9A⟩ := hcut
      have hstep := runA_step HP.out HA.out
      rw [show (⟨op, sa, sk, st, sv, sc, sb⟩ : St).at_ = sa from rfl, HAT.out] at hstep
      generalize hNX : stepNext txt true kk nn l ⟨op, sa, sk, st, sv, sc, sb⟩ = nx at *
      generalize hSY : stepSays txt true kk nn l ⟨op, sa, sk, st, sv, sc, sb⟩ = an at *
      clear hNX hSY
      obtain ⟨av, an1, aok, al⟩ := an
      obtain ⟨la, lc, hle, hlc, hlr⟩ := id hrsx
      subst hle
      have HSTEP := Lib.hid hstep
      have HWX := Lib.hid hWx
      have HRX := Lib.hid hrunx
      have HVX := Lib.hid hvx
      have HRSX := Lib.hid hrsx
      have HBX2 := Lib.hid hBx
      have z0 := hWx.cell (j := 0) rfl
      have z1 := hWx.cell (j := 1) rfl
      have z2 := hWx.cell (j := 2) rfl
      have z3 := hWx.cell (j := 3) rfl
      have hgn8 := gNew wc (.cells (anc (⟨av, an1, aok, al⟩, .slice la al.length lc)).toArray 94)
      have HR9 := Lib.hid (hrunx.grow hgn8)
      have HRS9 := Lib.hid (hrsx.keep (fun _ h => h) (fun b hb => hgn8.block b (hrunx.lt b hb)))
      have HN9 := Lib.hid (news_of (box_news wc (anc (⟨av, an1, aok, al⟩, .slice la al.length lc)).toArray 94))
      have HONE9 : Hid (∀ u ∈ anc (⟨av, an1, aok, al⟩, .slice la al.length lc), u.oneCell' = true) := by
        intro v hv
        simp only [List.mem_cons, List.not_mem_nil, or_false] at hv
        rcases hv with rfl | rfl | rfl | rfl <;> rfl
      have hlo := HBND.out.2.2.1
      have HMX : Hid (outs.length + 1 ≤ maxLen) := by show _ ≤ _; simp only [maxLen]; omega
      have HBYT : Hid ((outs.length + 1) * 48 ≤ 140737488355328) := by show _ ≤ _; omega
      have HB8 : Hid (Below (w.heap.size + 1) wa wc) := HBR.out.trans hBx
      clear hstep hWx hrunx hvx hrsx hBx hgn8 hlo hlc hlr hnA h9A hlv
      go_wp2_with ((with_reducible refine at_slot 159 ?_); refine wpList_append_moved _ rfl _ _ 35 rfl (w.heap.size + 1) 94 ia _ 4 48 Tryz.underlying35 hia ha0 ha1 ha2 rfl (by omega) _ outs.length (ancs outs) (by rfl) HR9.out.out ⟨wc.heap.size, 0, none⟩ 1 1 (anc (⟨av, an1, aok, al⟩, .slice la al.length lc)) (by rfl) rfl HN9.out HONE9.out HMX.out HBYT.out HR9.out.big ?_; intro v10' w10 hown10 hg10 hm10)
      have HLT10 := Lib.hid HR9.out.out.lt
      go_roundg (gk - 1)
      case measure => have := HIG.out; omega
      case rel =>
        have hig := HIG.out
        obtain ⟨b1, b2, b3, b4⟩ := HBND.out
        have hnx : nx.toList.length ≤ 1 := by cases nx <;> simp
        have hwt := HWTN.out
        have hb10 := (HB8.out.trans ((gNew wc (.cells (anc (⟨av, an1, aok, al⟩, .slice la al.length lc)).toArray 94)).mono HRX.out.big)).grown hg10 HR9.out.big (fun k hk => (HLT10.out k hk).1)
        refine ⟨i + 1, S', ls ++ nx.toList, outs ++ [(⟨av, an1, aok, al⟩, .slice la al.length lc)], by omega, by simp, HR9.out.say hg10 hm10 hown10 HRS9.out, ?_, hb10, by rw [List.length_append]; omega, by rw [List.length_append]; omega, by rw [List.length_append]; simp; omega, ?_⟩
        · rw [HSTEP.out]
          simp
        · intro m hm
          rcases List.mem_append.1 hm with hm | hm
          · exact (b4 m hm).more (by omega)
          · rw [hwt]
            exact HVX.out m hm
    · have HE := Lib.hid (runA_end (Nat.le_refl _) hA)
      have HAN := Lib.hid (hrun.done rfl)
      have HB2 := Lib.hid (HB.out.trans (hB.mono (Nat.le_succ _)))
      clear hrun hA hB
      go_wp2
      go_ret
      rw [← HE.out]
      obtain ⟨outs', h1, h2, h3⟩ := HAN.out
      exact ⟨_, rfl, ⟨outs', h1, h2.keep (fun b hb => Nat.le_trans (Nat.le_succ _) hb) (fun _ _ => rfl), h3.keep (fun b hb => Nat.le_trans (Nat.le_succ _) hb) (fun _ _ => rfl)⟩, HB2.out⟩
end Go.Proofs.YtfejflhgaphilaaGreatDoor

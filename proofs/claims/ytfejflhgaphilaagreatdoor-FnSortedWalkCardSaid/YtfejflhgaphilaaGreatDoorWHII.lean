/-
  THE WALK of an iterator's seek, instance ii.
  THE WALKS of an iterator's First, Last and Seek, instance ii.
  THE WALKS of an iterator's Done, Next and Prev, and of a map's Iterator, instance ii.
-/
import Derived.Test.YtfejflhgaphilaaGreatDoorWGII
set_option linter.all false
set_option linter.unusedVariables false
set_option linter.unusedSimpArgs false
set_option linter.unusedSectionVars false
namespace Go.Proofs.YtfejflhgaphilaaGreatDoor
open Go.RowKit Go.Sort Lst
namespace Nii

def fIdx : Nat → FuncId | 0 => 215 | _ + 1 => 251
theorem meIdx : ∀ (h a : Nat) (w : World), (method 474 (ty h) (.pointer (some ⟨a, 0, none⟩)) "pub-bracken/pub/immutable.indexOf").run Tryz.prog w = .ok (fIdx h, .pointer (some ⟨a, 0, none⟩)) w
  | 0, _, _ => by kernel_rfl
  | _ + 1, _, _ => by kernel_rfl
theorem enIdx : ∀ (h : Nat) (args : Array Value) (w : World), (callFunc (fIdx h) args).run Tryz.prog w = .ok (.enter (fIdx h) args) w
  | 0 => enters_of Tryz.func215 (by kernel_rfl) rfl
  | _ + 1 => enters_of Tryz.func251 (by kernel_rfl) rfl

/-- Where a key stands, or belongs, in a node. -/
def Ix (kk nn : Int) (k : Int) (w : World) (S : Nat → Prop) : Nat → Value → List (Int × Int) → Nat → Prop
  | 0, _, l, i => i = pos (f kk nn k) l
  | h + 1, v, l, i => ∃ ks a b o cap, BranchAt Iii w S h v ks a b o cap ∧ l = (ks.map (·.l)).flatten ∧ i = bi kk nn k ks

theorem node_idx (kk nn : Int) (cv : Value) (hc : OK kk nn cv) (k : Int) (hk : WfI k) (S : Nat → Prop) (w : World) (hS : ∀ x, S x → x < w.heap.size) : ∀ (h a : Nat) (l : List (Int × Int)) (x : Nat), Node Iii w S h (.iface (ty h) (.pointer (some ⟨a, 0, none⟩))) l x →
    Srt (c kk nn) l → (∀ p ∈ l, WfI p.1) → ∃ i, Ix kk nn k w S h (.iface (ty h) (.pointer (some ⟨a, 0, none⟩))) l i ∧
      ∀ W, Below w.heap.size w W → Calls Tryz.prog (fIdx h) #[.pointer (some ⟨a, 0, none⟩), Value.int IntKind.i64 k, cv] W fun e w' => e = .returned (.int .i64 (i : Int)) ∧ Below W.heap.size W w'
  | 0, a, l, x, ⟨a', b, o, cap, h1, hSa, hSb, h4, hcap, _, h0, h32, hx, hR, _⟩, hs, hwf => by
    injection h1 with _ h1
    injection h1 with h1
    injection h1 with h1
    injection h1 with h1 _ _
    subst h1
    exact ⟨_, rfl, fun W hW => leafidx kk nn cv hc a b o cap l k W (gCell hW h4) (hR.grow hW) h32 hs hwf hk⟩
  | h + 1, a, l, x, hn, hs, hwf => by
    obtain ⟨ks, a', b, o, cap, hb, hl⟩ := Node.branch hn
    have hp := hb.ptr
    injection hp with _ hp
    injection hp with hp
    injection hp with hp
    injection hp with hp _ _
    subst hp hl
    exact ⟨_, ⟨ks, a, b, o, cap, hb, rfl, rfl⟩, fun W hW => bridx kk nn cv hc a b o cap ks k W (gCell hW hb.cell) (hb.row.grow hW) hb.h32 hs (fun c hc => (hb.kids c hc).ne) (fun c hc p hp => hwf p (List.mem_flatten.2 ⟨c.l, List.mem_map.2 ⟨c, hc, rfl⟩, hp⟩)) hk⟩

theorem Sta.rebase {w wr : World} {it : Nat} {S : Nat → Prop} {H : Nat} {root : Value} {L : List (Int × Int)} {c0 : Option Value} {h : Nat} {v : Value} {l A B : List (Int × Int)} {fs : List (Value × Nat)} {j : Nat} {cells : List Value}
    (hs : Sta w wr it S H root L c0 h v l A B fs j cells) (hit : ¬ S it) : Sta wr wr it S H root L c0 h v l A B fs j cells :=
  ⟨Upd.refl _ _, hs.whole, hs.len, hs.c0, hs.depth, hs.ctx.keep (fun _ h => h) (fun b hb => hs.upd.heap (fun e => hit (e ▸ hb))), hs.stk, hs.ints⟩

theorem Sta.grow {w w' : World} {it : Nat} {S : Nat → Prop} {H : Nat} {root : Value} {L : List (Int × Int)} {c0 : Option Value} {h : Nat} {v : Value} {l A B : List (Int × Int)} {fs : List (Value × Nat)} {j : Nat} {cells : List Value}
    (hs : Sta w w it S H root L c0 h v l A B fs j cells) (hS : ∀ x, S x → x < w.heap.size) (hB : Below w.heap.size w w') : Sta w' w' it S H root L c0 h v l A B fs j cells :=
  ⟨Upd.refl _ _, hs.whole.grow hB, hs.len, hs.c0, hs.depth, hs.ctx.keep (fun _ h => h) (fun b hb => hB.block b (hS b hb)), hs.stk, hs.ints⟩

theorem Ix.keep {kk nn : Int} {k : Int} {w w' : World} {S : Nat → Prop} (hw : ∀ b, S b → w'.heap[b]? = w.heap[b]?) : ∀ {h : Nat} {v : Value} {l : List (Int × Int)} {i : Nat}, Ix kk nn k w S h v l i → Ix kk nn k w' S h v l i
  | 0, _, _, _, h => h
  | _ + 1, _, _, _, ⟨ks, a, b, o, cap, hb, h1, h2⟩ => ⟨ks, a, b, o, cap, hb.keep (fun _ h => h) hw, h1, h2⟩

theorem At.rebase {w wr : World} {it : Nat} {S : Nat → Prop} {H : Nat} {root : Value} {L : List (Int × Int)} {c0 : Option Value} {t e : Int} (h : At w wr it S H root L c0 t e) (hit : ¬ S it) : At wr wr it S H root L c0 t e := by
  rcases h with ⟨h1, cells, hd⟩ | ⟨v, l, A, B, fs, j, cells, hs, h1, h2⟩
  · exact .inl ⟨h1, cells, Upd.refl _ _, hd.whole, hd.len, hd.c0, hd.depth, hd.ints⟩
  · exact .inr ⟨v, l, A, B, fs, j, cells, hs.rebase hit, h1, h2⟩

theorem At.upd {w wr : World} {it : Nat} {S : Nat → Prop} {H : Nat} {root : Value} {L : List (Int × Int)} {c0 : Option Value} {t e : Int} (h : At w wr it S H root L c0 t e) : Upd it w wr := by
  rcases h with ⟨h1, cells, hd⟩ | ⟨v, l, A, B, fs, j, cells, hs, h1, h2⟩
  · exact hd.upd
  · exact hs.upd

theorem frm_self {it : Nat} {w a b : World} (h : w.grownBy a (some it)) (k : Upd it a b) : w.grownBy b (some it) :=
  ⟨k.by_.os.trans h.os, k.by_.tape.trans h.tape, k.by_.output.trans h.output, by rw [k.size]; exact h.size, fun i hi hne => (k.heap (fun e => hne (by rw [e]))).trans (h.block i hi hne)⟩

set_option maxHeartbeats 8000000 in
set_option maxRecDepth 100000 in
theorem itseek (kk nn : Int) (cv : Value) (hc : OK kk nn cv) (k : Int) (hk : WfI k) (S : Nat → Prop) (H : Nat) (root : Value) (L : List (Int × Int)) (w : World) (hS : ∀ x, S x → x < w.heap.size) (hroot : ∃ f, Node Iii w S H root L f) (hH : H ≤ 20) (it : Nat) (hit : ¬ S it)
    (p : Nat) (hSp : S p) (hp2 : w.cell? ⟨p, 2, none⟩ = some cv) (hsrt : Srt (c kk nn) L) (hwf : ∀ q ∈ L, WfI q.1)
    (h : Nat) (v : Value) (l A B : List (Int × Int)) (fs : List (Value × Nat)) (j : Nat) (cells : List Value) (hs : Sta w w it S H root L (some (.pointer (some ⟨p, 0, none⟩))) h v l A B fs j cells) (hA : ∀ a ∈ A, f kk nn k a = -1) (hB : ∀ b ∈ B, f kk nn k b = 1) :
    Calls Tryz.prog 139 #[.pointer (some ⟨it, 0, none⟩), Value.int IntKind.i64 k] w fun e w' => e = .returned (.tuple #[]) ∧ w.grownBy w' (some it) ∧ At w' w' it S H root L (some (.pointer (some ⟨p, 0, none⟩))) (pos (f kk nn k) L : Nat) L.length := by
  have HS := Lib.hid hs
  have HA := Lib.hid hA
  have HB := Lib.hid hB
  have HSR := Lib.hid hsrt
  have HWF := Lib.hid hwf
  have HP2 := Lib.hid hp2
  obtain ⟨ct, cx, cfc, crv, hcv, hrest⟩ := id hc
  clear hs hA hB hsrt hwf hp2 hrest
  subst hcv
  have HOK := Lib.hid hc
  clear hc
  go_enter Tryz.func139, Tryz.ntmps139
  go_wp2_with fail
  go_loopg [4] h (fun g s4 wr => ∃ v l A B fs j cells, w.grownBy wr (some it) ∧ Sta wr wr it S H root L (some (.pointer (some ⟨p, 0, none⟩))) g v l A B fs j cells ∧ (∀ a ∈ A, f kk nn k a = -1) ∧ (∀ b ∈ B, f kk nn k b = 1))
  case atStart => exact ⟨_, _, _, _, _, _, _, ⟨rfl, rfl, rfl, Nat.le_refl _, fun _ _ _ => rfl⟩, HS.out, HA.out, HB.out⟩
  case round =>
    obtain ⟨v, l, A, B, fs, j, cells, hG, hs, hA, hB⟩ := hrel
    have hSr : ∀ b, S b → wr.heap[b]? = w.heap[b]? := fun b hb => hG.block b (hS b hb) (by intro e; injection e with e; exact hit (e ▸ hb))
    have hSl : ∀ b, S b → b < wr.heap.size := fun b hb => Nat.lt_of_lt_of_le (hS b hb) hG.size
    have hrr : ∃ f, Node Iii wr S H root L f := hroot.imp fun _ h => h.keep (fun _ h => h) hSr
    have hdep := hs.ctx.depth
    obtain ⟨f0, hnode⟩ := hs.ctx.node hrr
    obtain ⟨a, hv⟩ := node_ptr hnode
    subst hv
    have hsp := hs.ctx.split
    have hls : Srt (c kk nn) l := by
      have := HSR.out
      rw [← hsp] at this
      exact (List.pairwise_append.1 (List.pairwise_append.1 this).1).2.1
    have hlw : ∀ q ∈ l, WfI q.1 := fun q hq => HWF.out q (by rw [← hsp]; simp [hq])
    obtain ⟨i, hix, hcall⟩ := node_idx kk nn _ HOK.out k hk S wr hSl gk a l f0 hnode hls hlw
    have hpos := pos_mid hA hB (li := l)
    rw [hsp] at hpos
    have q65 := hs.whole.cell hs.depth
    have q0 := hs.whole.cell hs.c0
    have qp : wr.cell? ⟨p, 2, none⟩ = some (.iface ct cx) := cell_block (hSr p hSp) HP2.out
    obtain ⟨t1, t2⟩ := hs.stk.top
    have qv := hs.whole.cell t1
    have qj := hs.whole.cell t2
    have fj := hs.whole.frozen (1 + fs.length * 2 + 1)
    have hd1 : (fs.length : Int) < 32 := by omega
    have hd2 : fs.length < 32 := by omega
    have hd3 : fs.length < 31 := by omega
    have HS := Lib.hid hs.drew
    have HD := Lib.hid hdep
    have HN := Lib.hid hnode
    have HG := Lib.hid hG
    have HA := Lib.hid hA
    have HB := Lib.hid hB
    have HIX := Lib.hid hix
    have HCALL := Lib.hid hcall
    have HPOS := Lib.hid hpos
    have HSL := Lib.hid hSl
    have me := meIdx gk a
    have en := enIdx gk
    clear hs hdep hnode t1 t2 hG hA hB hix hcall hpos hSr hrr hsp hls hlw
    generalize hfc : fIdx gk = fc at *
    clear hfc
    go_upto_region 0 with (fail)
    refine wp_region_still_lit (by kernel_rfl) (by kernel_rfl) ?_
    change wpStill _ _ wr.drew _ _ _
    repeat still_step
    refine wpStill_nil ?_
    change Exit.then _ _ _ _ wr.drew
    have hs1 := HS.out.rebase hit
    have hB1 : Below wr.heap.size wr wr.drew := gDrewN (gRefl wr) 1
    have hG1 := frm_below HG.out hB1
    have hI1 := Ix.keep (w := wr) (w' := wr.drew) (fun b _ => rfl) HIX.out
    have hC1 := fun W (hW : Below wr.drew.heap.size wr.drew W) => HCALL.out W (gTrans hB1 hW)
    have hL1 : ∀ b, S b → b < wr.drew.heap.size := HSL.out
    have qp1 : wr.drew.cell? ⟨p, 2, none⟩ = some (.iface ct cx) := qp
    clear HS HG HIX HCALL HSL qp q65 q0 qv qj fj hB1 HN
    generalize wr.drew = w1 at *
    have HS := Lib.hid hs1
    have HG := Lib.hid hG1
    have HIX := Lib.hid hI1
    have HSL := Lib.hid hL1
    have q0 := hs1.whole.cell hs1.c0
    have qv := hs1.whole.cell hs1.stk.top.1
    have qj := hs1.whole.cell hs1.stk.top.2
    have fj := hs1.whole.frozen (1 + fs.length * 2 + 1)
    have hitl := hs1.whole.lt
    have HCW := Lib.hid (hC1 w1.drew (gDrewN (gRefl w1) 1))
    clear hs1 hG1 hI1 hL1 hC1
    go_upto_region 1 with (fail)
    go_cut [30] (fun s30 wx => w.grownBy wx (some it) ∧ Ix kk nn k wx S gk (.iface (ty gk) (.pointer (some ⟨a, 0, none⟩))) l i ∧ (∀ b, S b → wx.heap[b]? = w.heap[b]?) ∧ ∃ cells', Sta wx wx it S H root L (some (.pointer (some ⟨p, 0, none⟩))) gk (.iface (ty gk) (.pointer (some ⟨a, 0, none⟩))) l A B fs i cells')
    case first =>
      have q0' : w1.drew.cell? ⟨it, 0, none⟩ = _ := q0
      have qv' : w1.drew.cell? ⟨it, 1 + fs.length * 2, none⟩ = _ := qv
      have qp' : w1.drew.cell? ⟨p, 2, none⟩ = _ := qp1
      go_region_with (go_at_fn fc; refine HCW.out.mono ?_; rintro e w' ⟨rfl, hB⟩; have qj' := gCell hB qj; have fj' := gFrozen (p := ⟨it, 1 + fs.length * 2 + 1, none⟩) hB hitl fj)
      all_goals
        have hsg := HS.out.grow HSL.out (gTrans (gDrewN (gRefl w1) 1) hB)
        have hBx := gTrans (gDrewN (gRefl w1) 1) hB
        have HSG := Lib.hid hsg
        have HBX := Lib.hid hBx
        clear hsg hBx hB
        go_wp2_with fail
        go_meet
        have ht := HSG.out.turn hd3 i
        have hg2 := frm_self (frm_below HG.out HBX.out) ht.upd
        exact ⟨hg2, HIX.out.keep (fun b hb => (ht.upd.heap (fun e => hit (e ▸ hb))).trans (HBX.out.block b (HSL.out b hb))), fun b hb => hg2.block b (hS b hb) (by intro e; injection e with e; exact hit (e ▸ hb)), _, ht.rebase hit⟩
    case rest =>
      obtain ⟨hG, hix, hSw, cells', hs⟩ := hcut
      have hroot' : ∃ f, Node Iii wc S H root L f := hroot.imp fun _ h => h.keep (fun _ h => h) hSw
      have hSl : ∀ b, S b → b < wc.heap.size := fun b hb => Nat.lt_of_lt_of_le (hS b hb) hG.size
      obtain ⟨f1, hnode⟩ := hs.ctx.node hroot'
      have HN := Lib.hid hnode
      have hsp := hs.ctx.split
      have hls : Srt (c kk nn) l := by
        have := HSR.out
        rw [← hsp] at this
        exact (List.pairwise_append.1 (List.pairwise_append.1 this).1).2.1
      have HLS := Lib.hid hls
      have qv := hs.whole.cell hs.stk.top.1
      have qj := hs.whole.cell hs.stk.top.2
      have q65 := hs.whole.cell hs.depth
      have HS := Lib.hid hs
      have HG := Lib.hid hG
      have HIX := Lib.hid hix
      have HSW := Lib.hid hSw
      have HR := Lib.hid hroot'
      have HSL := Lib.hid hSl
      clear hs hG hix hSw hroot' hnode hsp hls hSl me en HCW q0 fj hitl qp1
      cases gk with
      | zero =>
        change wc.cell? ⟨it, 1 + fs.length * 2, none⟩ = some (.iface 212 (.pointer (some ⟨a, 0, none⟩))) at qv
        obtain ⟨a', b, o, cap, hp, hSa, hSb, h4, hcap, _, h0, h32, _, hR, _⟩ := HN.out
        injection hp with _ hp
        injection hp with hp
        injection hp with hp
        injection hp with hp _ _
        subst hp
        have q4 := h4
        have hile : i ≤ l.length := by rw [HIX.out]; exact pos_le _ _
        have HPI := Lib.hid (HIX.out)
        have ta1 := taLB
        have ta2 := taLL
        clear hR h4
        go_upto_region 9 with (fail)
        refine wp_region_still_lit (by kernel_rfl) (by kernel_rfl) ?_
        change wpStill _ _ wc.drew _ _ _
        repeat still_step
        refine wpStill_nil ?_
        change Exit.then _ _ _ _ wc.drew
        have hs2 := HS.out.drew.rebase hit
        have hg2 : w.grownBy wc.drew (some it) := frm_below HG.out (gDrewN (gRefl wc) 1)
        have hr2 : ∃ f, Node Iii wc.drew S H root L f := HR.out.imp fun _ h => Node.keep (w := wc) (w' := wc.drew) (fun _ h => h) (fun _ _ => rfl) h
        clear HS HG HR HIX HSW HSL HN qv qj q65 q4
        generalize wc.drew = w2 at *
        have HS := Lib.hid hs2
        have HG := Lib.hid hg2
        have HR := Lib.hid hr2
        clear hs2 hg2 hr2
        by_cases he : i = l.length
        · have he' : ((i : Int) == (l.length : Int)) = true := by simp [he]
          have HNX := Lib.hid (itnext S H root L w2 HR.out hH it hit w2 _ _ l A B fs i _ HS.out hile ((pos (f kk nn k) L : Nat) : Int) (by have := HPOS.out; have := HPI.out; simp only [Ix] at this; rw [Nat.min_eq_right (by omega)]; omega))
          clear he
          go_wp2_with (go_at_call 137; refine HNX.out.mono ?_; rintro e w3 ⟨rfl, hat⟩)
          exact bodyPost_ret (v := .tuple #[]) (by simp [results, Tryz.results139, go_sem]) rfl ⟨rfl, frm_self HG.out hat.upd, hat.rebase hit⟩
        · have he' : ((i : Int) == (l.length : Int)) = false := by rw [beq_eq_false_iff_ne]; omega
          have hlt : i < l.length := by omega
          clear he
          go_wp2
          exact bodyPost_ret (v := .tuple #[]) (by simp [results, Tryz.results139, go_sem]) rfl ⟨rfl, HG.out, .inr ⟨_, l, A, B, fs, i, _, HS.out, hlt, by have := HPOS.out; have := HPI.out; simp only [Ix] at this; omega⟩⟩
      | succ gk =>
        change wc.cell? ⟨it, 1 + fs.length * 2, none⟩ = some (.iface 298 (.pointer (some ⟨a, 0, none⟩))) at qv
        obtain ⟨ks, a', b, o, cap, hb, hl, hi⟩ := HIX.out
        have hp := hb.ptr
        injection hp with _ hp
        injection hp with hp
        injection hp with hp
        injection hp with hp _ _
        subst hp hl
        obtain ⟨c, hc, hil, hlow, hhigh⟩ := br_mid kk nn k HLS.out (fun c hc => (hb.kids c hc).ne) hb.pos
        rw [← hi] at hc hil hlow hhigh
        obtain ⟨ca, hca⟩ := node_ptr (hb.kids c (List.mem_of_getElem? hc))
        have q4 := hb.cell
        have q5 : wc.cell? ⟨b, o + i * 2 + 1, none⟩ = some (.iface (ty gk) (.pointer (some ⟨ca, 0, none⟩))) := by
          rw [← hca, Nat.add_assoc]; exact hb.row _ _ (flat_get pay_len hc (j := 1) (by decide))
        have hn0 : (i : Int) < (ks.length : Int) := by omega
        have hw1 : IntKind.i64.wrap ((fs.length : Int) + 1) = (fs.length : Int) + 1 := IntWalk.i64_in _ (by omega)
        have hd4 : (fs.length : Int) + 1 < 32 := by omega
        have hd5 : fs.length + 1 < 32 := by omega
        have hd6 : (0 : Int) ≤ (fs.length : Int) + 1 := by omega
        have HBR := Lib.hid hb
        have HC := Lib.hid hc
        have HCA := Lib.hid hca
        have HLO := Lib.hid hlow
        have HHI := Lib.hid hhigh
        have ta1 := taBB
        clear hb hc hca hlow hhigh hi
        go_upto_region 5 with (fail)
        refine wp_region_still_tail 21 (by kernel_rfl) (by kernel_rfl) ?_
        change wpStill _ _ wc.drew _ _ _
        simp only [List.take_succ_cons, List.take_zero, List.drop_succ_cons, List.drop_zero]
        repeat still_step
        refine wpStill_nil ?_
        obtain ⟨p1, p2, p3, p4, p5⟩ := push_facts (u := .iface (ty gk) (.pointer (some ⟨ca, 0, none⟩))) (j := 0) HS.out.len HS.out.c0 HS.out.depth HS.out.stk HS.out.ints hd3
        refine wpList_storeN (w := wc.drew) rfl _ _ _ rfl it (1 + (fs.length + 1) * 2) #[.iface (ty gk) (.pointer (some ⟨ca, 0, none⟩)), .int .i64 0] (by first | rfl | simp [Act.eval]) rfl _ 210 HS.out.whole (by kernel_rfl) (by rw [HS.out.len]; simp; omega) (by intro u hu; simp at hu; rcases hu with rfl | rfl <;> rfl) ?_
        intro w3 hW3 hU3
        have P := Lib.hid (And.intro p1 (And.intro p2 (And.intro p4 p5)))
        have HW3 := Lib.hid hW3
        have HU3 := Lib.hid (HS.out.upd.trans (upd_drew hU3))
        have q65 := hW3.cell p3
        have f65 := hW3.frozen 65
        clear p1 p2 p3 p4 p5 hW3 hU3 qv qj q4 q5
        go_wp2
        go_roundg gk
        case measure => omega
        case rel =>
          obtain ⟨p1, p2, p4, p5⟩ := P.out
          have hdn := Sta.down (q := i) (j := 0) HS.out.ctx HBR.out HC.out hd3 HU3.out HW3.out p1 p2 (by rw [HCA.out]; exact p4) p5
          rw [HCA.out] at hdn
          refine ⟨_, _, _, _, _, _, _, frm_self HG.out hdn.upd, hdn.rebase hit, fun x hx => ?_, fun x hx => ?_⟩
          · rcases List.mem_append.1 hx with hx | hx
            · exact HA.out x hx
            · exact HLO.out x hx
          · rcases List.mem_append.1 hx with hx | hx
            · exact HHI.out x hx
            · exact HB.out x hx
end Nii
end Go.Proofs.YtfejflhgaphilaaGreatDoor

namespace Go.Proofs.YtfejflhgaphilaaGreatDoor
open Go.RowKit Go.Sort Lst
namespace Nii

/-- Where a seek ends: past the end it is done. -/
def landed (n m : Nat) : Int := if n = m then -1 else (n : Int)

/-- An iterator's block, wherever it stands. -/
structure Blk (w : World) (it : Nat) (c0 : Option Value) (cells : List Value) : Prop where
  whole : Whole w it cells 210
  len : cells.length = 66
  c0 : cells[0]? = c0
  ints : ∀ i, i < 32 → ∃ n : Nat, cells[1 + i * 2 + 1]? = some (.int .i64 (n : Int))
  deep : ∃ z : Int, cells[65]? = some (.int .i64 z)

theorem Dn.blk {w wr : World} {it : Nat} {c0 : Option Value} {cells : List Value} (h : Dn w wr it c0 cells) : Blk wr it c0 cells := ⟨h.whole, h.len, h.c0, h.ints, _, h.depth⟩
theorem Sta.blk {w wr : World} {it : Nat} {S : Nat → Prop} {H : Nat} {root : Value} {L : List (Int × Int)} {c0 : Option Value} {h : Nat} {v : Value} {l A B : List (Int × Int)} {fs : List (Value × Nat)} {j : Nat} {cells : List Value}
    (hs : Sta w wr it S H root L c0 h v l A B fs j cells) : Blk wr it c0 cells := ⟨hs.whole, hs.len, hs.c0, hs.ints, _, hs.depth⟩

/-- An iterator over the map at p, whose pairs are L, stands at t, or is done (-1). -/
def ItAt (kk nn : Int) (w : World) (S : Nat → Prop) (it p N : Nat) (L : List (Int × Int)) (t : Int) : Prop :=
  MapAt kk nn w S p N L ∧ ¬ S it ∧
  ((t = -1 ∧ ∃ cells, Dn w w it (some (.pointer (some ⟨p, 0, none⟩))) cells) ∨
   ∃ (H : Nat) (root : Value) (v : Value) (l A B : List (Int × Int)) (fs : List (Value × Nat)) (j : Nat) (cells : List Value), (∃ f, Node Iii w S H root L f) ∧ H ≤ 20 ∧
     Sta w w it S H root L (some (.pointer (some ⟨p, 0, none⟩))) 0 v l A B fs j cells ∧ j < l.length ∧ t = (A.length : Int) + j)

/-- The depth of a stack that is empty is set. -/
theorem Blk.done {w : World} {it : Nat} {c0 : Option Value} {cells : List Value} (h : Blk w it c0 cells) : ∃ cells', Dn w (w.setCell ⟨it, 65, none⟩ (.int .i64 (-1))) it c0 cells' := by
  obtain ⟨h1, h2⟩ := whole_set h.whole (.int .i64 (-1)) (i := 65) (by rw [h.len]; omega)
  exact ⟨_, h2, h1, by simp [h.len], by rw [List.getElem?_set_ne (by omega)]; exact h.c0, by rw [List.getElem?_set_self (by rw [h.len]; omega)], fun i hi => by rw [List.getElem?_set_ne (by omega)]; exact h.ints i hi⟩

/-- The root is laid on an empty stack. -/
theorem Blk.root {w w3 : World} {it : Nat} {S : Nat → Prop} {H : Nat} {root : Value} {L : List (Int × Int)} {c0 : Option Value} {cells : List Value} (h : Blk w it c0 cells) (hU : Upd it w w3) (hW : Whole w3 it (splice cells 1 [root, .int .i64 0]) 210) :
    Sta w (w3.setCell ⟨it, 65, none⟩ (.int .i64 0)) it S H root L c0 H root L [] [] [] 0 ((splice cells 1 [root, .int .i64 0]).set 65 (.int .i64 0)) := by
  have hl := h.len
  have e := splice_set2 (cells := cells) (n := 1) (u := root) (x := .int .i64 0) (by omega)
  rw [e] at hW ⊢
  obtain ⟨h1, h2⟩ := whole_set hW (.int .i64 0) (i := 65) (by simp [hl])
  refine ⟨hU.trans h2, h1, by simp [hl], ?_, ?_, .top, ⟨?_, ?_⟩, fun i hi => ?_⟩
  · rw [List.getElem?_set_ne (by omega), List.getElem?_set_ne (by omega), List.getElem?_set_ne (by omega)]; exact h.c0
  · rw [List.getElem?_set_self (by simp [hl])]; rfl
  · rw [List.getElem?_set_ne (by omega), List.getElem?_set_ne (by omega), List.getElem?_set_self (by omega)]
  · rw [List.getElem?_set_ne (by omega), List.getElem?_set_self (by simp [hl])]; rfl
  · rw [List.getElem?_set_ne (by omega)]
    by_cases e1 : i = 0
    · subst e1; exact ⟨0, by rw [List.getElem?_set_self (by simp [hl])]; rfl⟩
    · rw [List.getElem?_set_ne (by omega), List.getElem?_set_ne (by omega)]; exact h.ints i hi

theorem MapAt.small {kk nn : Int} {w : World} {S : Nat → Prop} {p N : Nat} {l : List (Int × Int)} (h : MapAt kk nn w S p N l) (hN : N < 16 ^ 20) :
    ∃ root cv, w.cell? ⟨p, 1, none⟩ = some root ∧ w.cell? ⟨p, 2, none⟩ = some cv ∧ S p ∧ Srt (c kk nn) l ∧ (∀ q ∈ l, WfI q.1) ∧
      ((root = .nilIface ∧ l = []) ∨ (l ≠ [] ∧ OK kk nn cv ∧ ∃ (H a : Nat), H ≤ 20 ∧ root = .iface (ty H) (.pointer (some ⟨a, 0, none⟩)) ∧ ∃ f, Node Iii w S H root l f)) := by
  obtain ⟨root, cv, h0, h1, h2, h3, h4, h5, h6⟩ := h
  refine ⟨root, cv, h1, h2, h3, h4, h5, ?_⟩
  rcases h6 with ⟨h7, h8, _⟩ | ⟨h7, H, a, f, h8, h9, h10⟩
  · exact .inl ⟨h7, h8⟩
  · refine .inr ⟨h9.ne, h7, H, a, ?_, h8, f, h9⟩
    have h11 : 16 ^ H < 16 ^ 20 := by omega
    have := (Nat.pow_lt_pow_iff_right (a := 16) (by decide)).1 h11
    omega


set_option maxHeartbeats 4000000 in
set_option maxRecDepth 100000 in
theorem itFirst (kk nn : Int) (S : Nat → Prop) (w : World) (hS : ∀ x, S x → x < w.heap.size) (it p N : Nat) (hN : N < 16 ^ 20) (L : List (Int × Int)) (hM : MapAt kk nn w S p N L) (hit : ¬ S it) (cells : List Value) (hb : Blk w it (some (.pointer (some ⟨p, 0, none⟩))) cells) :
    Calls Tryz.prog 89 #[.pointer (some ⟨it, 0, none⟩)] w fun e w' => e = .returned (.tuple #[]) ∧ w.grownBy w' (some it) ∧ ItAt kk nn w' S it p N L (if L = [] then -1 else 0) := by
  have HM := Lib.hid hM
  obtain ⟨root, cv, h1, h2, hSp, hs, hwf, hD⟩ := hM.small hN
  have q0 := hb.whole.cell hb.c0
  obtain ⟨z, hz⟩ := hb.deep
  have q65 := hb.whole.cell hz
  have f65 := hb.whole.frozen 65
  have HBK := Lib.hid hb
  have HSR := Lib.hid hs
  have HWF := Lib.hid hwf
  have hpi : p ≠ it := fun e => hit (e ▸ hSp)
  have hSn : ∀ w', Upd it w w' → ∀ b, S b → w'.heap[b]? = w.heap[b]? := fun w' hU b hb => hU.heap (fun e => hit (e ▸ hb))
  have HSN := Lib.hid hSn
  have HZ := Lib.hid hz
  clear hM hb hs hwf hz hSn
  rcases hD with ⟨rfl, rfl⟩ | ⟨hne, hok, H, a, hH, rfl, hnode⟩
  · go_enter Tryz.func89, Tryz.ntmps89
    go_wp2
    obtain ⟨cells', hd⟩ := HBK.out.done
    have hU := hd.upd
    exact bodyPost_ret (v := .tuple #[]) (by simp [results, Tryz.results89, go_sem]) rfl ⟨rfl, hU.by_, HM.out.keep (fun _ h => h) (HSN.out _ hU), hit, .inl ⟨by simp, cells', Upd.refl _ _, hd.whole, hd.len, hd.c0, hd.depth, hd.ints⟩⟩
  · have HND := Lib.hid hnode
    have HOK := Lib.hid hok
    have HNE := Lib.hid hne
    clear hnode hok hne
    go_enter Tryz.func89, Tryz.ntmps89
    go_upto_region 2 with (fail)
    refine wp_region_still_tail 12 (by kernel_rfl) (by kernel_rfl) ?_
    change wpStill _ _ w.drew _ _ _
    simp only [List.take_succ_cons, List.take_zero, List.drop_succ_cons, List.drop_zero]
    repeat still_step
    refine wpStill_nil ?_
    refine wpList_storeN (w := w.drew) rfl _ _ _ rfl it 1 #[.iface (ty H) (.pointer (some ⟨a, 0, none⟩)), .int .i64 0] (by first | rfl | simp [Act.eval]) rfl _ 210 HBK.out.whole (by kernel_rfl) (by rw [HBK.out.len]; simp) (by intro u hu; simp at hu; rcases hu with rfl | rfl <;> rfl) ?_
    intro w3 hW3 hU3
    have hU := upd_drew hU3
    have hs4 := HBK.out.root (S := S) (H := H) (L := L) hU hW3
    have q65' : w3.cell? ⟨it, 65, none⟩ = some (.int .i64 z) := hW3.cell (j := 65) (by
      rw [show (#[.iface (ty H) (.pointer (some ⟨a, 0, none⟩)), .int .i64 0] : Array Value).toList = [.iface (ty H) (.pointer (some ⟨a, 0, none⟩)), .int .i64 0] from rfl, splice_set2 (by have := HBK.out.len; omega), List.getElem?_set_ne (by omega), List.getElem?_set_ne (by omega)]
      exact HZ.out)
    have f65' := hW3.frozen 65
    have HS4 := Lib.hid hs4
    clear hs4 hU hU3 hW3 q65 f65 q0
    go_upto_region 4 with (fail)
    have hs4 := HS4.out
    clear q65' f65' HS4
    generalize w3.setCell ⟨it, 65, none⟩ (.int .i64 0) = w4 at *
    have hU4 := hs4.upd
    have hS4 := HSN.out w4 hU4
    have HF := Lib.hid (itfirst S H _ L w HND.out hH it hit w4 _ H _ L [] [] [] 0 _ hs4)
    have HS4 := Lib.hid hS4
    clear hs4 hU4 hS4
    go_wp2_with (go_at_call 134; refine HF.out.mono ?_; rintro e w5 ⟨rfl, v', l', B', fs', cells', hst⟩)
    have hU5 := hst.upd
    have hS5 := HSN.out w5 hU5
    obtain ⟨f', hn'⟩ := hst.ctx.node HND.out
    have hl' : 0 < l'.length := List.length_pos_iff.2 hn'.ne
    exact bodyPost_end (v := .tuple #[]) (by simp [results, Tryz.results89, go_sem]) rfl ⟨rfl, hU5.by_, HM.out.keep (fun _ h => h) hS5, hit, .inr ⟨H, _, v', l', [], B', fs', 0, cells', HND.out.imp fun _ h => h.keep (fun _ h => h) hS5, hH, hst.rebase hit, hl', by simp⟩⟩

set_option maxHeartbeats 4000000 in
set_option maxRecDepth 100000 in
theorem itLast (kk nn : Int) (S : Nat → Prop) (w : World) (hS : ∀ x, S x → x < w.heap.size) (it p N : Nat) (hN : N < 16 ^ 20) (L : List (Int × Int)) (hM : MapAt kk nn w S p N L) (hit : ¬ S it) (cells : List Value) (hb : Blk w it (some (.pointer (some ⟨p, 0, none⟩))) cells) :
    Calls Tryz.prog 91 #[.pointer (some ⟨it, 0, none⟩)] w fun e w' => e = .returned (.tuple #[]) ∧ w.grownBy w' (some it) ∧ ItAt kk nn w' S it p N L ((L.length : Int) - 1) := by
  have HM := Lib.hid hM
  obtain ⟨root, cv, h1, h2, hSp, hs, hwf, hD⟩ := hM.small hN
  have q0 := hb.whole.cell hb.c0
  obtain ⟨z, hz⟩ := hb.deep
  have q65 := hb.whole.cell hz
  have f65 := hb.whole.frozen 65
  have HBK := Lib.hid hb
  have HSR := Lib.hid hs
  have HWF := Lib.hid hwf
  have hpi : p ≠ it := fun e => hit (e ▸ hSp)
  have hSn : ∀ w', Upd it w w' → ∀ b, S b → w'.heap[b]? = w.heap[b]? := fun w' hU b hb => hU.heap (fun e => hit (e ▸ hb))
  have HSN := Lib.hid hSn
  have HZ := Lib.hid hz
  clear hM hb hs hwf hz hSn
  rcases hD with ⟨rfl, rfl⟩ | ⟨hne, hok, H, a, hH, rfl, hnode⟩
  · go_enter Tryz.func91, Tryz.ntmps91
    go_wp2
    obtain ⟨cells', hd⟩ := HBK.out.done
    have hU := hd.upd
    exact bodyPost_ret (v := .tuple #[]) (by simp [results, Tryz.results91, go_sem]) rfl ⟨rfl, hU.by_, HM.out.keep (fun _ h => h) (HSN.out _ hU), hit, .inl ⟨by simp, cells', Upd.refl _ _, hd.whole, hd.len, hd.c0, hd.depth, hd.ints⟩⟩
  · have HND := Lib.hid hnode
    have HOK := Lib.hid hok
    have HNE := Lib.hid hne
    clear hnode hok hne
    go_enter Tryz.func91, Tryz.ntmps91
    go_upto_region 2 with (fail)
    refine wp_region_still_tail 12 (by kernel_rfl) (by kernel_rfl) ?_
    change wpStill _ _ w.drew _ _ _
    simp only [List.take_succ_cons, List.take_zero, List.drop_succ_cons, List.drop_zero]
    repeat still_step
    refine wpStill_nil ?_
    refine wpList_storeN (w := w.drew) rfl _ _ _ rfl it 1 #[.iface (ty H) (.pointer (some ⟨a, 0, none⟩)), .int .i64 0] (by first | rfl | simp [Act.eval]) rfl _ 210 HBK.out.whole (by kernel_rfl) (by rw [HBK.out.len]; simp) (by intro u hu; simp at hu; rcases hu with rfl | rfl <;> rfl) ?_
    intro w3 hW3 hU3
    have hU := upd_drew hU3
    have hs4 := HBK.out.root (S := S) (H := H) (L := L) hU hW3
    have q65' : w3.cell? ⟨it, 65, none⟩ = some (.int .i64 z) := hW3.cell (j := 65) (by
      rw [show (#[.iface (ty H) (.pointer (some ⟨a, 0, none⟩)), .int .i64 0] : Array Value).toList = [.iface (ty H) (.pointer (some ⟨a, 0, none⟩)), .int .i64 0] from rfl, splice_set2 (by have := HBK.out.len; omega), List.getElem?_set_ne (by omega), List.getElem?_set_ne (by omega)]
      exact HZ.out)
    have f65' := hW3.frozen 65
    have HS4 := Lib.hid hs4
    clear hs4 hU hU3 hW3 q65 f65 q0
    go_upto_region 4 with (fail)
    have hs4 := HS4.out
    clear q65' f65' HS4
    generalize w3.setCell ⟨it, 65, none⟩ (.int .i64 0) = w4 at *
    have hU4 := hs4.upd
    have hS4 := HSN.out w4 hU4
    have HF := Lib.hid (itlast S H _ L w HND.out hH it hit w4 _ H _ L [] [] [] 0 _ hs4)
    have HS4 := Lib.hid hS4
    clear hs4 hU4 hS4
    go_wp2_with (go_at_call 135; refine HF.out.mono ?_; rintro e w5 ⟨rfl, v', l', A', fs', cells', m, hm, hst⟩)
    have hU5 := hst.upd
    have hS5 := HSN.out w5 hU5
    have hsp := congrArg List.length hst.ctx.split
    simp only [List.length_append, List.length_nil] at hsp
    exact bodyPost_end (v := .tuple #[]) (by simp [results, Tryz.results91, go_sem]) rfl ⟨rfl, hU5.by_, HM.out.keep (fun _ h => h) hS5, hit, .inr ⟨H, _, v', l', A', [], fs', m, cells', HND.out.imp fun _ h => h.keep (fun _ h => h) hS5, hH, hst.rebase hit, by omega, by omega⟩⟩

set_option maxHeartbeats 4000000 in
set_option maxRecDepth 100000 in
theorem itSeek (kk nn : Int) (k : Int) (hk : WfI k) (S : Nat → Prop) (w : World) (hS : ∀ x, S x → x < w.heap.size) (it p N : Nat) (hN : N < 16 ^ 20) (L : List (Int × Int)) (hM : MapAt kk nn w S p N L) (hit : ¬ S it) (cells : List Value) (hb : Blk w it (some (.pointer (some ⟨p, 0, none⟩))) cells) :
    Calls Tryz.prog 95 #[.pointer (some ⟨it, 0, none⟩), Value.int IntKind.i64 k] w fun e w' => e = .returned (.tuple #[]) ∧ w.grownBy w' (some it) ∧ ItAt kk nn w' S it p N L (landed (pos (f kk nn k) L) L.length) := by
  have HM := Lib.hid hM
  obtain ⟨root, cv, h1, h2, hSp, hs, hwf, hD⟩ := hM.small hN
  have q0 := hb.whole.cell hb.c0
  obtain ⟨z, hz⟩ := hb.deep
  have q65 := hb.whole.cell hz
  have f65 := hb.whole.frozen 65
  have HBK := Lib.hid hb
  have HSR := Lib.hid hs
  have HWF := Lib.hid hwf
  have hpi : p ≠ it := fun e => hit (e ▸ hSp)
  have hSn : ∀ w', Upd it w w' → ∀ b, S b → w'.heap[b]? = w.heap[b]? := fun w' hU b hb => hU.heap (fun e => hit (e ▸ hb))
  have HSN := Lib.hid hSn
  have HZ := Lib.hid hz
  have H2 := Lib.hid h2
  clear hM hb hs hwf hz hSn
  rcases hD with ⟨rfl, rfl⟩ | ⟨hne, hok, H, a, hH, rfl, hnode⟩
  · go_enter Tryz.func95, Tryz.ntmps95
    go_wp2
    obtain ⟨cells', hd⟩ := HBK.out.done
    have hU := hd.upd
    exact bodyPost_ret (v := .tuple #[]) (by simp [results, Tryz.results95, go_sem]) rfl ⟨rfl, hU.by_, HM.out.keep (fun _ h => h) (HSN.out _ hU), hit, .inl ⟨by simp [landed, pos], cells', Upd.refl _ _, hd.whole, hd.len, hd.c0, hd.depth, hd.ints⟩⟩
  · have HND := Lib.hid hnode
    have HOK := Lib.hid hok
    have HNE := Lib.hid hne
    clear hnode hok hne
    go_enter Tryz.func95, Tryz.ntmps95
    go_upto_region 2 with (fail)
    refine wp_region_still_tail 12 (by kernel_rfl) (by kernel_rfl) ?_
    change wpStill _ _ w.drew _ _ _
    simp only [List.take_succ_cons, List.take_zero, List.drop_succ_cons, List.drop_zero]
    repeat still_step
    refine wpStill_nil ?_
    refine wpList_storeN (w := w.drew) rfl _ _ _ rfl it 1 #[.iface (ty H) (.pointer (some ⟨a, 0, none⟩)), .int .i64 0] (by first | rfl | simp [Act.eval]) rfl _ 210 HBK.out.whole (by kernel_rfl) (by rw [HBK.out.len]; simp) (by intro u hu; simp at hu; rcases hu with rfl | rfl <;> rfl) ?_
    intro w3 hW3 hU3
    have hU := upd_drew hU3
    have hs4 := HBK.out.root (S := S) (H := H) (L := L) hU hW3
    have q65' : w3.cell? ⟨it, 65, none⟩ = some (.int .i64 z) := hW3.cell (j := 65) (by
      rw [show (#[.iface (ty H) (.pointer (some ⟨a, 0, none⟩)), .int .i64 0] : Array Value).toList = [.iface (ty H) (.pointer (some ⟨a, 0, none⟩)), .int .i64 0] from rfl, splice_set2 (by have := HBK.out.len; omega), List.getElem?_set_ne (by omega), List.getElem?_set_ne (by omega)]
      exact HZ.out)
    have f65' := hW3.frozen 65
    have HS4 := Lib.hid hs4
    clear hs4 hU hU3 hW3 q65 f65 q0
    go_upto_region 4 with (fail)
    have hs4 := HS4.out
    clear q65' f65' HS4
    generalize w3.setCell ⟨it, 65, none⟩ (.int .i64 0) = w4 at *
    have hU4 := hs4.upd
    have hS4 := HSN.out w4 hU4
    have hsz := hU4.size
    have HF := Lib.hid (itseek kk nn cv HOK.out k hk S H _ L w4 (fun x hx => by rw [hsz]; exact hS x hx) (HND.out.imp fun _ h => h.keep (fun _ h => h) hS4) hH it hit p hSp (cell_block (hS4 p hSp) H2.out) HSR.out HWF.out H _ L [] [] [] 0 _ (hs4.rebase hit) (fun _ h => (by cases h)) (fun _ h => (by cases h)))
    have HS4 := Lib.hid hS4
    have HU4 := Lib.hid hU4
    clear hs4 hU4 hS4 hsz
    have hle := pos_le (f kk nn k) L
    go_wp2_with (go_at_call 139; refine HF.out.mono ?_; rintro e w5 ⟨rfl, hg5, hat⟩)
    have hg : w.grownBy w5 (some it) := ⟨hg5.os.trans HU4.out.by_.os, hg5.tape.trans HU4.out.by_.tape, hg5.output.trans HU4.out.by_.output, Nat.le_trans (by rw [HU4.out.size]; exact Nat.le_refl _) hg5.size, fun b hb hne => (hg5.block b (by rw [HU4.out.size]; exact hb) hne).trans (HU4.out.heap (fun e => hne (by rw [e])))⟩
    have hS5 : ∀ b, S b → w5.heap[b]? = w.heap[b]? := fun b hb => hg.block b (hS b hb) (by intro e; injection e with e; exact hit (e ▸ hb))
    refine bodyPost_end (v := .tuple #[]) (by simp [results, Tryz.results95, go_sem]) rfl ⟨rfl, hg, HM.out.keep (fun _ h => h) hS5, hit, ?_⟩
    rcases hat with ⟨he, cells', hd⟩ | ⟨v', l', A', B', fs', j', cells', hst, hj', ht⟩
    · exact .inl ⟨by unfold landed; rw [if_pos (by omega)], cells', hd⟩
    · have hsp := congrArg List.length hst.ctx.split
      simp only [List.length_append] at hsp
      exact .inr ⟨H, _, v', l', A', B', fs', j', cells', HND.out.imp fun _ h => h.keep (fun _ h => h) hS5, hH, hst, hj', by unfold landed; rw [if_neg (by omega)]; exact ht⟩
end Nii
end Go.Proofs.YtfejflhgaphilaaGreatDoor

namespace Go.Proofs.YtfejflhgaphilaaGreatDoor
open Go.RowKit Go.Sort Lst
namespace Nii

theorem ItAt.depth {kk nn : Int} {w : World} {S : Nat → Prop} {it p N : Nat} {L : List (Int × Int)} {t : Int} (h : ItAt kk nn w S it p N L t) : ∃ cells z, Blk w it (some (.pointer (some ⟨p, 0, none⟩))) cells ∧ cells[65]? = some (.int .i64 z) ∧ (z == -1) = decide (t < 0) := by
  obtain ⟨_, _, h⟩ := h
  rcases h with ⟨rfl, cells, hd⟩ | ⟨H, root, v, l, A, B, fs, j, cells, _, _, hs, hj, rfl⟩
  · exact ⟨cells, -1, hd.blk, hd.depth, rfl⟩
  · refine ⟨cells, _, hs.blk, hs.depth, ?_⟩
    have h1 : ((fs.length : Int) == -1) = false := by rw [beq_eq_false_iff_ne]; omega
    have h2 : decide ((A.length : Int) + j < 0) = false := by simp; omega
    rw [h1, h2]

theorem itDone (kk nn : Int) (S : Nat → Prop) (w : World) (it p N : Nat) (L : List (Int × Int)) (t : Int) (h : ItAt kk nn w S it p N L t) :
    Calls Tryz.prog 97 #[.pointer (some ⟨it, 0, none⟩)] w fun e w' => e = .returned (.bool (decide (t < 0))) ∧ w' = w := by
  obtain ⟨cells, z, hb, hz, he⟩ := h.depth
  have q65 := hb.whole.cell hz
  have HE := Lib.hid he
  clear h hb hz he
  go_enter Tryz.func97, Tryz.ntmps97
  go_wp2
  go_ret
  exact ⟨by first | rfl | (rw [HE.out]; rfl), rfl⟩

theorem ItAt.grow {kk nn : Int} {w w' : World} {S : Nat → Prop} {it p N : Nat} {L : List (Int × Int)} {t : Int} (h : ItAt kk nn w S it p N L t) (hS : ∀ x, S x → x < w.heap.size) (hB : Below w.heap.size w w') : ItAt kk nn w' S it p N L t := by
  obtain ⟨hm, hi, h⟩ := h
  refine ⟨hm.keep (fun _ h => h) (fun b hb => hB.block b (hS b hb)), hi, ?_⟩
  rcases h with ⟨h1, cells, hd⟩ | ⟨H, root, v, l, A, B, fs, j, cells, hn, hH, hs, hj, ht⟩
  · exact .inl ⟨h1, cells, Upd.refl _ _, hd.whole.grow hB, hd.len, hd.c0, hd.depth, hd.ints⟩
  · exact .inr ⟨H, root, v, l, A, B, fs, j, cells, hn.imp fun _ h => h.keep (fun _ h => h) (fun b hb => hB.block b (hS b hb)), hH, hs.grow hS hB, hj, ht⟩

set_option maxHeartbeats 4000000 in
set_option maxRecDepth 100000 in
theorem itNext_at (kk nn : Int) (S : Nat → Prop) (w : World) (hS : ∀ x, S x → x < w.heap.size) (it p N : Nat) (L : List (Int × Int)) (n : Nat) (x : Int × Int) (hx : L[n]? = some x) (hi : ItAt kk nn w S it p N L n) :
    Calls Tryz.prog 93 #[.pointer (some ⟨it, 0, none⟩)] w fun e w' => e = .returned (.tuple #[Value.int IntKind.i64 x.1, val x.2, .bool true]) ∧ w.grownBy w' (some it) ∧ ItAt kk nn w' S it p N L (landed (n + 1) L.length) := by
  have hn0 : decide ((n : Int) < 0) = false := by simp
  have hi1 := hi
  have HB := Lib.hid (gRefl w)
  have HDN := Lib.hid (itDone kk nn S _ it p N L n hi1)
  have hS1 := hS
  clear hi
  go_enter Tryz.func93, Tryz.ntmps93
  go_upto_region 3 with (go_at_call 97; refine HDN.out.mono ?_; rintro e w1 ⟨rfl, rfl⟩)
  obtain ⟨hm, hit, hd⟩ := hi1
  rcases hd with ⟨hneg, _⟩ | ⟨H, root, v, l, A, B, fs, j, cells, hnr, hH, hs, hj, ht⟩
  · omega
  have hdep := hs.ctx.depth
  obtain ⟨f, hnode⟩ := hs.ctx.node hnr
  obtain ⟨a, b, o, cap, hv, hSa, hSb, h4, hcap, _, h0, h32, _, hR, ecs, efr, hE⟩ := hnode
  change v = .iface 212 (.pointer (some ⟨a, 0, none⟩)) at hv
  subst hv
  have hnj : n = A.length + j := by omega
  have hlj : l[j]? = some x := by
    have := hs.ctx.split
    rw [← this, hnj, List.append_assoc, List.getElem?_append_right (by omega), Nat.add_sub_cancel_left, List.getElem?_append_left hj] at hx
    exact hx
  have qk : w1.cell? ⟨b, o + j * 2, none⟩ = some (Value.int IntKind.i64 x.1) := by simpa using hR (j * 2) _ (flat_get entii hlj (j := 0) (by decide))
  have qval : w1.cell? ⟨b, o + j * 2 + 1, none⟩ = some (.int .i64 x.2) := by rw [Nat.add_assoc]; exact hR _ _ (flat_get entii hlj (j := 1) (by decide))
  have q65 := hs.whole.cell hs.depth
  have qv := hs.whole.cell hs.stk.top.1
  have qj := hs.whole.cell hs.stk.top.2
  have hj1 : (j : Int) < (l.length : Int) := by omega
  have hd1 : (fs.length : Int) < 32 := by omega
  have hd2 : fs.length < 32 := by omega
  have hd3 : fs.length < 31 := by omega
  have ta := taL
  have HM := Lib.hid hm
  have HS := Lib.hid hs
  have HNR := Lib.hid hnr
  have HNJ := Lib.hid hnj
  have HLEN : Hid (A.length + l.length + B.length = L.length) := by have := congrArg List.length hs.ctx.split; rw [List.length_append, List.length_append] at this; exact this
  clear hm hs hnr hR hdep hx hlj ht hnj hE
  refine wp_region_still_lit (by kernel_rfl) (by kernel_rfl) ?_
  change wpStill _ _ (w1).drew _ _ _
  repeat still_step
  refine wpStill_nil ?_
  change Exit.then _ _ _ _ (w1).drew
  go_upto_region 5 with (fail)
  refine wp_region_still_lit (by kernel_rfl) (by kernel_rfl) ?_
  change wpStill _ _ (w1).drew.drew _ _ _
  repeat still_step
  refine wpStill_nil ?_
  change Exit.then _ _ _ _ (w1).drew.drew
  go_upto_region 6 with (fail)
  refine wp_region_still_lit (by kernel_rfl) (by kernel_rfl) ?_
  change wpStill _ _ (w1).drew.drew.drew _ _ _
  repeat still_step
  refine wpStill_nil ?_
  change Exit.then _ _ _ _ (w1).drew.drew.drew
  go_upto_region 7 with (fail)
  have hs3 := (HS.out.drew.drew.drew).rebase hit
  have hnr3 : ∃ f, Node Iii (w1).drew.drew.drew S H root L f := HNR.out.imp fun _ h => Node.keep (w := w1) (w' := (w1).drew.drew.drew) (fun _ h => h) (fun _ _ => rfl) h
  have hm3 : MapAt kk nn (w1).drew.drew.drew S p N L := MapAt.keep (w := w1) (w' := (w1).drew.drew.drew) HM.out (fun _ h => h) (fun _ _ => rfl)
  have hB3 : Below w1.heap.size w1 (w1).drew.drew.drew := gTrans HB.out (gDrewN (gRefl _) 3)
  clear HS HNR HM HB q65 qv qj qk h4
  generalize (w1).drew.drew.drew = w3 at *
  have hrw := itnext S H _ L w3 hnr3 hH it hit w3 _ _ l A B fs j _ hs3 (Nat.le_of_lt hj) ((n : Int) + 1) (by have := HNJ.out; rw [Nat.min_eq_left (by omega)]; omega)
  have HNX := Lib.hid hrw
  have HM3 := Lib.hid hm3
  have HB3 := Lib.hid hB3
  have hnr4 : ∀ w4, (∀ b, S b → w4.heap[b]? = w3.heap[b]?) → ∃ f, Node Iii w4 S H _ L f := fun w4 h4 => hnr3.imp fun _ h => h.keep (fun _ h => h) h4
  clear hrw hs3 hm3 hB3 hnr3
  go_upto_region 8 with (go_at_call 137; refine HNX.out.mono ?_; rintro e w4 ⟨rfl, hat⟩)
  have hU := hat.upd
  have hS4 : ∀ b, S b → w4.heap[b]? = w3.heap[b]? := fun b hb => hU.heap (fun e => hit (e ▸ hb))
  have hlen := HLEN.out
  have hfin : w1.grownBy w4 (some it) ∧ ItAt kk nn w4 S it p N L (landed (n + 1) L.length) := by
    refine ⟨frm_self (frm_of HB3.out) hU, HM3.out.keep (fun _ h => h) hS4, hit, ?_⟩
    rcases hat.rebase hit with ⟨he, cells', hd⟩ | ⟨v', l', A', B', fs', j', cells', hst, hj', ht⟩
    · exact .inl ⟨by unfold landed; rw [if_pos (by omega)], cells', hd⟩
    · have hsp := congrArg List.length hst.ctx.split
      simp only [List.length_append] at hsp
      exact .inr ⟨H, _, v', l', A', B', fs', j', cells', hnr4 w4 hS4, hH, hst, hj', by unfold landed; rw [if_neg (by omega)]; simpa using ht⟩
  have HFIN := Lib.hid hfin
  clear hfin hU hS4 hat hlen
  go_wp2
  exact bodyPost_ret (v := .tuple #[Value.int IntKind.i64 x.1, val x.2, .bool true]) (by simp [results, Tryz.results93, go_sem]) rfl ⟨rfl, HFIN.out⟩
end Nii
end Go.Proofs.YtfejflhgaphilaaGreatDoor

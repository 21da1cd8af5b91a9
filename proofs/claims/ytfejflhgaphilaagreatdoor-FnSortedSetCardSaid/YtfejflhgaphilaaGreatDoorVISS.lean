/-
  THE WALK of an iterator's Prev, instance ss.
  THE WALKS of an iterator's Next and Prev where it is done, instance ss.
  THE WALK of a map's Iterator, instance ss.
  A PLAIN LAW: what an iterator is where its blocks are as they were, instance ss.
-/
import Derived.Test.YtfejflhgaphilaaGreatDoorVHSS
set_option linter.all false
set_option linter.unusedVariables false
set_option linter.unusedSimpArgs false
set_option linter.unusedSectionVars false
namespace Go.Proofs.YtfejflhgaphilaaGreatDoor
open Go.RowKit Go.Sort Lst
namespace Nss

set_option maxHeartbeats 4000000 in
set_option maxRecDepth 100000 in
theorem itPrev_at (kk nn : Int) (S : Nat → Prop) (w : World) (hS : ∀ x, S x → x < w.heap.size) (it p N : Nat) (L : List (ByteArray × Int)) (n : Nat) (x : ByteArray × Int) (hx : L[n]? = some x) (hi : ItAt kk nn w S it p N L n) :
    Calls Tryz.prog 111 #[.pointer (some ⟨it, 0, none⟩)] w fun e w' => e = .returned (.tuple #[Value.string x.1, val x.2, .bool true]) ∧ w.grownBy w' (some it) ∧ ItAt kk nn w' S it p N L ((n : Int) - 1) := by
  have hn0 : decide ((n : Int) < 0) = false := by simp
  have hB := gNew w (.cells #[] 157)
  have hi1 := hi.grow hS hB
  have hS1 : ∀ x, S x → x < (w.alloc (.cells #[] 157)).heap.size := fun x hx => Nat.lt_of_lt_of_le (hS x hx) hB.size
  have HB := Lib.hid hB
  have HDN := Lib.hid (itDone kk nn S _ it p N L n hi1)
  clear hi hB
  go_enter Tryz.func111, Tryz.ntmps111
  go_upto_region 3 with (go_at_call 110; refine HDN.out.mono ?_; rintro e w1 ⟨rfl, rfl⟩)
  clear HDN
  generalize w.alloc (.cells #[] 157) = wa at *
  obtain ⟨hm, hit, hd⟩ := hi1
  rcases hd with ⟨hneg, _⟩ | ⟨H, root, v, l, A, B, fs, j, cells, hnr, hH, hs, hj, ht⟩
  · omega
  have hdep := hs.ctx.depth
  obtain ⟨f, hnode⟩ := hs.ctx.node hnr
  obtain ⟨a, b, o, cap, hv, hSa, hSb, h4, hcap, _, h0, h32, _, hR, ecs, efr, hE⟩ := hnode
  change v = .iface 233 (.pointer (some ⟨a, 0, none⟩)) at hv
  subst hv
  have hnj : n = A.length + j := by omega
  have hlj : l[j]? = some x := by
    have := hs.ctx.split
    rw [← this, hnj, List.append_assoc, List.getElem?_append_right (by omega), Nat.add_sub_cancel_left, List.getElem?_append_left hj] at hx
    exact hx
  have qk : wa.cell? ⟨b, o + j * 1, none⟩ = some (Value.string x.1) := by simpa using hR (j * 1) _ (flat_get entss hlj (j := 0) (by decide))
  rw [Nat.mul_one] at qk
  have g6 := partE wa.drew.drew.drew b (o + j) hE
  have q65 := hs.whole.cell hs.depth
  have qv := hs.whole.cell hs.stk.top.1
  have qj := hs.whole.cell hs.stk.top.2
  have hj1 : (j : Int) < (l.length : Int) := by omega
  have hd1 : (fs.length : Int) < 32 := by omega
  have hd2 : fs.length < 32 := by omega
  have hd3 : fs.length < 31 := by omega
  have ta := taL
  have HM := Lib.hid hm
  have HS := Lib.hid hs
  have HNR := Lib.hid hnr
  have HNJ := Lib.hid hnj
  have HLEN : Hid (A.length + l.length + B.length = L.length) := by have := congrArg List.length hs.ctx.split; rw [List.length_append, List.length_append] at this; exact this
  clear hm hs hnr hR hdep hx hlj ht hnj hE
  refine wp_region_still_lit (by kernel_rfl) (by kernel_rfl) ?_
  change wpStill _ _ (wa).drew _ _ _
  repeat still_step
  refine wpStill_nil ?_
  change Exit.then _ _ _ _ (wa).drew
  go_upto_region 5 with (fail)
  refine wp_region_still_lit (by kernel_rfl) (by kernel_rfl) ?_
  change wpStill _ _ (wa).drew.drew _ _ _
  repeat still_step
  refine wpStill_nil ?_
  change Exit.then _ _ _ _ (wa).drew.drew
  go_upto_region 6 with (fail)
  refine wp_region_still_tail 9 (by kernel_rfl) (by kernel_rfl) ?_
  change wpStill _ _ (wa).drew.drew.drew _ _ _
  simp only [List.take_succ_cons, List.take_zero, List.drop_succ_cons, List.drop_zero]
  repeat still_step
  refine wpStill_nil ?_
  change wpList _ _ _ _ _ wa.drew.drew.drew
  go_upto_region 7 with (fail)
  have hs3 := (HS.out.drew.drew.drew).rebase hit
  have hnr3 : ∃ f, Node Iss (wa).drew.drew.drew S H root L f := HNR.out.imp fun _ h => Node.keep (w := wa) (w' := (wa).drew.drew.drew) (fun _ h => h) (fun _ _ => rfl) h
  have hm3 : MapAt kk nn (wa).drew.drew.drew S p N L := MapAt.keep (w := wa) (w' := (wa).drew.drew.drew) HM.out (fun _ h => h) (fun _ _ => rfl)
  have hB3 : Below w.heap.size w (wa).drew.drew.drew := gTrans HB.out (gDrewN (gRefl _) 3)
  clear HS HNR HM HB q65 qv qj qk h4
  generalize (wa).drew.drew.drew = w3 at *
  have hrw := itprev S H _ L w3 hnr3 hH it hit w3 _ _ l A B fs j _ hs3 hj ((n : Int) - 1) (by have := HNJ.out; omega)
  have HNX := Lib.hid hrw
  have HM3 := Lib.hid hm3
  have HB3 := Lib.hid hB3
  have hnr4 : ∀ w4, (∀ b, S b → w4.heap[b]? = w3.heap[b]?) → ∃ f, Node Iss w4 S H _ L f := fun w4 h4 => hnr3.imp fun _ h => h.keep (fun _ h => h) h4
  clear hrw hs3 hm3 hB3 hnr3
  go_upto_region 8 with (go_at_call 155; refine HNX.out.mono ?_; rintro e w4 ⟨rfl, hat⟩)
  have hU := hat.upd
  have hS4 : ∀ b, S b → w4.heap[b]? = w3.heap[b]? := fun b hb => hU.heap (fun e => hit (e ▸ hb))
  have hlen := HLEN.out
  have hfin : w.grownBy w4 (some it) ∧ ItAt kk nn w4 S it p N L ((n : Int) - 1) := by
    refine ⟨frm_self (frm_of HB3.out) hU, HM3.out.keep (fun _ h => h) hS4, hit, ?_⟩
    rcases hat.rebase hit with ⟨he, cells', hd⟩ | ⟨v', l', A', B', fs', j', cells', hst, hj', ht⟩
    · exact .inl ⟨he, cells', hd⟩
    · have hsp := congrArg List.length hst.ctx.split
      simp only [List.length_append] at hsp
      exact .inr ⟨H, _, v', l', A', B', fs', j', cells', hnr4 w4 hS4, hH, hst, hj', ht⟩
  have HFIN := Lib.hid hfin
  clear hfin hU hS4 hat hlen
  go_region_with (fail)
  all_goals
    go_wp2_with fail
    exact bodyPost_ret (v := .tuple #[Value.string x.1, val x.2, .bool true]) (by simp [results, Tryz.results111, go_sem]) rfl ⟨rfl, frm_below HFIN.out.1 (gDrewN (gRefl w4) 1), HFIN.out.2.grow (fun x hx => Nat.lt_of_lt_of_le (hS x hx) HFIN.out.1.size) (gDrewN (gRefl w4) 1)⟩
end Nss
end Go.Proofs.YtfejflhgaphilaaGreatDoor

namespace Go.Proofs.YtfejflhgaphilaaGreatDoor
open Go.RowKit Go.Sort Lst
namespace Nss

end Nss
end Go.Proofs.YtfejflhgaphilaaGreatDoor

namespace Go.Proofs.YtfejflhgaphilaaGreatDoor
open Go.RowKit Go.Sort Lst
namespace Nss

/-- The cells of a new iterator. -/
noncomputable abbrev blank (p : Nat) : Array Value := Tryz.zeroCells250.setIfInBounds 0 (.pointer (some ⟨p, 0, none⟩))

def zeroAt (v : Option Value) : Bool := match v with | some (.int .i64 0) => true | _ => false
theorem zeroAt_eq {v : Option Value} (h : zeroAt v = true) : v = some (.int .i64 ((0 : Nat) : Int)) := by
  unfold zeroAt at h
  split at h
  · rfl
  · cases h
theorem blank_ints (p : Nat) : (List.range 32).all (fun i => zeroAt (blank p).toList[1 + i * 2 + 1]?) = true := by kernel_rfl

theorem blank_blk (w : World) (p : Nat) : Blk (w.alloc (.cells (blank p) 250)) w.heap.size (some (.pointer (some ⟨p, 0, none⟩))) (blank p).toList := by
  refine ⟨box_news w _ _, by kernel_rfl, by kernel_rfl, fun i hi => ⟨0, ?_⟩, 0, zeroAt_eq (by kernel_rfl)⟩
  exact zeroAt_eq (List.all_eq_true.1 (blank_ints p) i (List.mem_range.2 hi))

set_option maxHeartbeats 2000000 in
set_option maxRecDepth 100000 in
theorem mapIter (kk nn : Int) (S : Nat → Prop) (w : World) (hS : ∀ x, S x → x < w.heap.size) (p N : Nat) (hN : N < 16 ^ 20) (L : List (ByteArray × Int)) (hM : MapAt kk nn w S p N L) :
    Calls Tryz.prog 107 #[.pointer (some ⟨p, 0, none⟩)] w fun e w' => e = .returned (.pointer (some ⟨w.heap.size, 0, none⟩)) ∧ Below w.heap.size w w' ∧ ItAt kk nn w' S w.heap.size p N L (landed 0 L.length) := by
  have hB := gNew w (.cells (blank p) 250)
  have hF := itFirst kk nn S _ (fun x hx => Nat.lt_of_lt_of_le (hS x hx) hB.size) w.heap.size p N hN L (hM.keep (fun _ h => h) (fun b hb => hB.block b (hS b hb))) (fun h => Nat.lt_irrefl _ (hS _ h)) _ (blank_blk w p)
  have e0 : (if L = [] then (-1 : Int) else 0) = landed 0 L.length := by unfold landed; cases L <;> simp
  rw [e0] at hF
  clear e0
  have HF := Lib.hid hF
  have HB := Lib.hid hB
  clear hF hM hB
  go_enter Tryz.func107, Tryz.ntmps107
  go_upto_region 2 with (fail)
  generalize w.alloc (.cells (Tryz.zeroCells250.setIfInBounds 0 (.pointer (some ⟨p, 0, none⟩))) 250) = wa at *
  go_wp2_with (go_at_call 108; refine HF.out.mono ?_; rintro e w2 ⟨rfl, hg, hi⟩)
  go_ret
  exact ⟨rfl, ⟨hg.os.trans HB.out.os, hg.tape.trans HB.out.tape, hg.output.trans HB.out.output, Nat.le_trans HB.out.size hg.size, fun b hb => (hg.block b (Nat.lt_of_lt_of_le hb HB.out.size) (by intro e; injection e with e; omega)).trans (HB.out.block b hb)⟩, hi⟩
end Nss
end Go.Proofs.YtfejflhgaphilaaGreatDoor

namespace Go.Proofs.YtfejflhgaphilaaGreatDoor
open Go.RowKit Go.Sort Lst
namespace Nss

theorem Sta.keep {w w' : World} {it : Nat} {S : Nat → Prop} {H : Nat} {root : Value} {L : List (ByteArray × Int)} {c0 : Option Value} {h : Nat} {v : Value} {l A B : List (ByteArray × Int)} {fs : List (Value × Nat)} {j : Nat} {cells : List Value}
    (hs : Sta w w it S H root L c0 h v l A B fs j cells) (hS : ∀ b, S b → w'.heap[b]? = w.heap[b]?) (hi : w'.heap[it]? = w.heap[it]?) : Sta w' w' it S H root L c0 h v l A B fs j cells :=
  ⟨Upd.refl _ _, hi.trans hs.whole, hs.len, hs.c0, hs.depth, hs.ctx.keep (fun _ h => h) hS, hs.stk, hs.ints⟩

theorem ItAt.keep {kk nn : Int} {w w' : World} {S : Nat → Prop} {it p N : Nat} {L : List (ByteArray × Int)} {t : Int} (h : ItAt kk nn w S it p N L t) (hS : ∀ b, S b → w'.heap[b]? = w.heap[b]?) (hit : w'.heap[it]? = w.heap[it]?) : ItAt kk nn w' S it p N L t := by
  obtain ⟨hm, hi, h⟩ := h
  refine ⟨hm.keep (fun _ h => h) hS, hi, ?_⟩
  rcases h with ⟨h1, cells, hd⟩ | ⟨H, root, v, l, A, B, fs, j, cells, hn, hH, hs, hj, ht⟩
  · exact .inl ⟨h1, cells, Upd.refl _ _, hit.trans hd.whole, hd.len, hd.c0, hd.depth, hd.ints⟩
  · exact .inr ⟨H, root, v, l, A, B, fs, j, cells, hn.imp fun _ h => h.keep (fun _ h => h) hS, hH, hs.keep hS hit, hj, ht⟩

/-- The blocks that an iterator's map lies in are not the iterator's own, which lies in the world. -/
theorem ItAt.lt {kk nn : Int} {w : World} {S : Nat → Prop} {it p N : Nat} {L : List (ByteArray × Int)} {t : Int} (h : ItAt kk nn w S it p N L t) : it < w.heap.size := by
  obtain ⟨cells, z, hb, _⟩ := h.depth
  exact hb.whole.lt

end Nss
end Go.Proofs.YtfejflhgaphilaaGreatDoor

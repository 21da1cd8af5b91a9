/-
  THE WALK of an iterator's seek, instance is.
  THE WALKS of an iterator's First, Last and Seek, instance is.
  THE WALKS of an iterator's Done, Next and Prev, and of a map's Iterator, instance is.
-/
import Derived.Test.YtfejflhgaphilaaGreatDoorVGIS
set_option linter.all false
set_option linter.unusedVariables false
set_option linter.unusedSimpArgs false
set_option linter.unusedSectionVars false
namespace Go.Proofs.YtfejflhgaphilaaGreatDoor
open Go.RowKit Go.Sort Lst
namespace Nis

def fIdx : Nat → FuncId | 0 => 233 | _ + 1 => 239
/-- Where a key stands, or belongs, in a node. -/
def Ix (kk nn : Int) (k : Int) (w : World) (S : Nat → Prop) : Nat → Value → List (Int × Int) → Nat → Prop
  | 0, _, l, i => i = pos (f kk nn k) l
  | h + 1, v, l, i => ∃ ks a b o cap, BranchAt Iis w S h v ks a b o cap ∧ l = (ks.map (·.l)).flatten ∧ i = bi kk nn k ks

theorem Sta.rebase {w wr : World} {it : Nat} {S : Nat → Prop} {H : Nat} {root : Value} {L : List (Int × Int)} {c0 : Option Value} {h : Nat} {v : Value} {l A B : List (Int × Int)} {fs : List (Value × Nat)} {j : Nat} {cells : List Value}
    (hs : Sta w wr it S H root L c0 h v l A B fs j cells) (hit : ¬ S it) : Sta wr wr it S H root L c0 h v l A B fs j cells :=
  ⟨Upd.refl _ _, hs.whole, hs.len, hs.c0, hs.depth, hs.ctx.keep (fun _ h => h) (fun b hb => hs.upd.heap (fun e => hit (e ▸ hb))), hs.stk, hs.ints⟩

theorem Sta.grow {w w' : World} {it : Nat} {S : Nat → Prop} {H : Nat} {root : Value} {L : List (Int × Int)} {c0 : Option Value} {h : Nat} {v : Value} {l A B : List (Int × Int)} {fs : List (Value × Nat)} {j : Nat} {cells : List Value}
    (hs : Sta w w it S H root L c0 h v l A B fs j cells) (hS : ∀ x, S x → x < w.heap.size) (hB : Below w.heap.size w w') : Sta w' w' it S H root L c0 h v l A B fs j cells :=
  ⟨Upd.refl _ _, hs.whole.grow hB, hs.len, hs.c0, hs.depth, hs.ctx.keep (fun _ h => h) (fun b hb => hB.block b (hS b hb)), hs.stk, hs.ints⟩

theorem Ix.keep {kk nn : Int} {k : Int} {w w' : World} {S : Nat → Prop} (hw : ∀ b, S b → w'.heap[b]? = w.heap[b]?) : ∀ {h : Nat} {v : Value} {l : List (Int × Int)} {i : Nat}, Ix kk nn k w S h v l i → Ix kk nn k w' S h v l i
  | 0, _, _, _, h => h
  | _ + 1, _, _, _, ⟨ks, a, b, o, cap, hb, h1, h2⟩ => ⟨ks, a, b, o, cap, hb.keep (fun _ h => h) hw, h1, h2⟩

theorem At.rebase {w wr : World} {it : Nat} {S : Nat → Prop} {H : Nat} {root : Value} {L : List (Int × Int)} {c0 : Option Value} {t e : Int} (h : At w wr it S H root L c0 t e) (hit : ¬ S it) : At wr wr it S H root L c0 t e := by
  rcases h with ⟨h1, cells, hd⟩ | ⟨v, l, A, B, fs, j, cells, hs, h1, h2⟩
  · exact .inl ⟨h1, cells, Upd.refl _ _, hd.whole, hd.len, hd.c0, hd.depth, hd.ints⟩
  · exact .inr ⟨v, l, A, B, fs, j, cells, hs.rebase hit, h1, h2⟩

theorem At.upd {w wr : World} {it : Nat} {S : Nat → Prop} {H : Nat} {root : Value} {L : List (Int × Int)} {c0 : Option Value} {t e : Int} (h : At w wr it S H root L c0 t e) : Upd it w wr := by
  rcases h with ⟨h1, cells, hd⟩ | ⟨v, l, A, B, fs, j, cells, hs, h1, h2⟩
  · exact hd.upd
  · exact hs.upd

theorem frm_self {it : Nat} {w a b : World} (h : w.grownBy a (some it)) (k : Upd it a b) : w.grownBy b (some it) :=
  ⟨k.by_.os.trans h.os, k.by_.tape.trans h.tape, k.by_.output.trans h.output, by rw [k.size]; exact h.size, fun i hi hne => (k.heap (fun e => hne (by rw [e]))).trans (h.block i hi hne)⟩

end Nis
end Go.Proofs.YtfejflhgaphilaaGreatDoor

namespace Go.Proofs.YtfejflhgaphilaaGreatDoor
open Go.RowKit Go.Sort Lst
namespace Nis

/-- Where a seek ends: past the end it is done. -/
def landed (n m : Nat) : Int := if n = m then -1 else (n : Int)

/-- An iterator's block, wherever it stands. -/
structure Blk (w : World) (it : Nat) (c0 : Option Value) (cells : List Value) : Prop where
  whole : Whole w it cells 281
  len : cells.length = 66
  c0 : cells[0]? = c0
  ints : ∀ i, i < 32 → ∃ n : Nat, cells[1 + i * 2 + 1]? = some (.int .i64 (n : Int))
  deep : ∃ z : Int, cells[65]? = some (.int .i64 z)

theorem Dn.blk {w wr : World} {it : Nat} {c0 : Option Value} {cells : List Value} (h : Dn w wr it c0 cells) : Blk wr it c0 cells := ⟨h.whole, h.len, h.c0, h.ints, _, h.depth⟩
theorem Sta.blk {w wr : World} {it : Nat} {S : Nat → Prop} {H : Nat} {root : Value} {L : List (Int × Int)} {c0 : Option Value} {h : Nat} {v : Value} {l A B : List (Int × Int)} {fs : List (Value × Nat)} {j : Nat} {cells : List Value}
    (hs : Sta w wr it S H root L c0 h v l A B fs j cells) : Blk wr it c0 cells := ⟨hs.whole, hs.len, hs.c0, hs.ints, _, hs.depth⟩

/-- An iterator over the map at p, whose pairs are L, stands at t, or is done (-1). -/
def ItAt (kk nn : Int) (w : World) (S : Nat → Prop) (it p N : Nat) (L : List (Int × Int)) (t : Int) : Prop :=
  MapAt kk nn w S p N L ∧ ¬ S it ∧
  ((t = -1 ∧ ∃ cells, Dn w w it (some (.pointer (some ⟨p, 0, none⟩))) cells) ∨
   ∃ (H : Nat) (root : Value) (v : Value) (l A B : List (Int × Int)) (fs : List (Value × Nat)) (j : Nat) (cells : List Value), (∃ f, Node Iis w S H root L f) ∧ H ≤ 20 ∧
     Sta w w it S H root L (some (.pointer (some ⟨p, 0, none⟩))) 0 v l A B fs j cells ∧ j < l.length ∧ t = (A.length : Int) + j)

/-- The depth of a stack that is empty is set. -/
theorem Blk.done {w : World} {it : Nat} {c0 : Option Value} {cells : List Value} (h : Blk w it c0 cells) : ∃ cells', Dn w (w.setCell ⟨it, 65, none⟩ (.int .i64 (-1))) it c0 cells' := by
  obtain ⟨h1, h2⟩ := whole_set h.whole (.int .i64 (-1)) (i := 65) (by rw [h.len]; omega)
  exact ⟨_, h2, h1, by simp [h.len], by rw [List.getElem?_set_ne (by omega)]; exact h.c0, by rw [List.getElem?_set_self (by rw [h.len]; omega)], fun i hi => by rw [List.getElem?_set_ne (by omega)]; exact h.ints i hi⟩

/-- The root is laid on an empty stack. -/
theorem Blk.root {w w3 : World} {it : Nat} {S : Nat → Prop} {H : Nat} {root : Value} {L : List (Int × Int)} {c0 : Option Value} {cells : List Value} (h : Blk w it c0 cells) (hU : Upd it w w3) (hW : Whole w3 it (splice cells 1 [root, .int .i64 0]) 281) :
    Sta w (w3.setCell ⟨it, 65, none⟩ (.int .i64 0)) it S H root L c0 H root L [] [] [] 0 ((splice cells 1 [root, .int .i64 0]).set 65 (.int .i64 0)) := by
  have hl := h.len
  have e := splice_set2 (cells := cells) (n := 1) (u := root) (x := .int .i64 0) (by omega)
  rw [e] at hW ⊢
  obtain ⟨h1, h2⟩ := whole_set hW (.int .i64 0) (i := 65) (by simp [hl])
  refine ⟨hU.trans h2, h1, by simp [hl], ?_, ?_, .top, ⟨?_, ?_⟩, fun i hi => ?_⟩
  · rw [List.getElem?_set_ne (by omega), List.getElem?_set_ne (by omega), List.getElem?_set_ne (by omega)]; exact h.c0
  · rw [List.getElem?_set_self (by simp [hl])]; rfl
  · rw [List.getElem?_set_ne (by omega), List.getElem?_set_ne (by omega), List.getElem?_set_self (by omega)]
  · rw [List.getElem?_set_ne (by omega), List.getElem?_set_self (by simp [hl])]; rfl
  · rw [List.getElem?_set_ne (by omega)]
    by_cases e1 : i = 0
    · subst e1; exact ⟨0, by rw [List.getElem?_set_self (by simp [hl])]; rfl⟩
    · rw [List.getElem?_set_ne (by omega), List.getElem?_set_ne (by omega)]; exact h.ints i hi

theorem MapAt.small {kk nn : Int} {w : World} {S : Nat → Prop} {p N : Nat} {l : List (Int × Int)} (h : MapAt kk nn w S p N l) (hN : N < 16 ^ 20) :
    ∃ root cv, w.cell? ⟨p, 1, none⟩ = some root ∧ w.cell? ⟨p, 2, none⟩ = some cv ∧ S p ∧ Srt (c kk nn) l ∧ (∀ q ∈ l, WfI q.1) ∧
      ((root = .nilIface ∧ l = []) ∨ (l ≠ [] ∧ OK kk nn cv ∧ ∃ (H a : Nat), H ≤ 20 ∧ root = .iface (ty H) (.pointer (some ⟨a, 0, none⟩)) ∧ ∃ f, Node Iis w S H root l f)) := by
  obtain ⟨root, cv, h0, h1, h2, h3, h4, h5, h6⟩ := h
  refine ⟨root, cv, h1, h2, h3, h4, h5, ?_⟩
  rcases h6 with ⟨h7, h8, _⟩ | ⟨h7, H, a, f, h8, h9, h10⟩
  · exact .inl ⟨h7, h8⟩
  · refine .inr ⟨h9.ne, h7, H, a, ?_, h8, f, h9⟩
    have h11 : 16 ^ H < 16 ^ 20 := by omega
    have := (Nat.pow_lt_pow_iff_right (a := 16) (by decide)).1 h11
    omega

set_option maxHeartbeats 4000000 in
set_option maxRecDepth 100000 in
theorem itFirst (kk nn : Int) (S : Nat → Prop) (w : World) (hS : ∀ x, S x → x < w.heap.size) (it p N : Nat) (hN : N < 16 ^ 20) (L : List (Int × Int)) (hM : MapAt kk nn w S p N L) (hit : ¬ S it) (cells : List Value) (hb : Blk w it (some (.pointer (some ⟨p, 0, none⟩))) cells) :
    Calls Tryz.prog 120 #[.pointer (some ⟨it, 0, none⟩)] w fun e w' => e = .returned (.tuple #[]) ∧ w.grownBy w' (some it) ∧ ItAt kk nn w' S it p N L (if L = [] then -1 else 0) := by
  have HM := Lib.hid hM
  obtain ⟨root, cv, h1, h2, hSp, hs, hwf, hD⟩ := hM.small hN
  have q0 := hb.whole.cell hb.c0
  obtain ⟨z, hz⟩ := hb.deep
  have q65 := hb.whole.cell hz
  have f65 := hb.whole.frozen 65
  have HBK := Lib.hid hb
  have HSR := Lib.hid hs
  have HWF := Lib.hid hwf
  have hpi : p ≠ it := fun e => hit (e ▸ hSp)
  have hSn : ∀ w', Upd it w w' → ∀ b, S b → w'.heap[b]? = w.heap[b]? := fun w' hU b hb => hU.heap (fun e => hit (e ▸ hb))
  have HSN := Lib.hid hSn
  have HZ := Lib.hid hz
  clear hM hb hs hwf hz hSn
  rcases hD with ⟨rfl, rfl⟩ | ⟨hne, hok, H, a, hH, rfl, hnode⟩
  · go_enter Tryz.func120, Tryz.ntmps120
    go_wp2
    obtain ⟨cells', hd⟩ := HBK.out.done
    have hU := hd.upd
    exact bodyPost_ret (v := .tuple #[]) (by simp [results, Tryz.results120, go_sem]) rfl ⟨rfl, hU.by_, HM.out.keep (fun _ h => h) (HSN.out _ hU), hit, .inl ⟨by simp, cells', Upd.refl _ _, hd.whole, hd.len, hd.c0, hd.depth, hd.ints⟩⟩
  · have HND := Lib.hid hnode
    have HOK := Lib.hid hok
    have HNE := Lib.hid hne
    clear hnode hok hne
    go_enter Tryz.func120, Tryz.ntmps120
    go_upto_region 2 with (fail)
    refine wp_region_still_tail 12 (by kernel_rfl) (by kernel_rfl) ?_
    change wpStill _ _ w.drew _ _ _
    simp only [List.take_succ_cons, List.take_zero, List.drop_succ_cons, List.drop_zero]
    repeat still_step
    refine wpStill_nil ?_
    refine wpList_storeN (w := w.drew) rfl _ _ _ rfl it 1 #[.iface (ty H) (.pointer (some ⟨a, 0, none⟩)), .int .i64 0] (by first | rfl | simp [Act.eval]) rfl _ 281 HBK.out.whole (by kernel_rfl) (by rw [HBK.out.len]; simp) (by intro u hu; simp at hu; rcases hu with rfl | rfl <;> rfl) ?_
    intro w3 hW3 hU3
    have hU := upd_drew hU3
    have hs4 := HBK.out.root (S := S) (H := H) (L := L) hU hW3
    have q65' : w3.cell? ⟨it, 65, none⟩ = some (.int .i64 z) := hW3.cell (j := 65) (by
      rw [show (#[.iface (ty H) (.pointer (some ⟨a, 0, none⟩)), .int .i64 0] : Array Value).toList = [.iface (ty H) (.pointer (some ⟨a, 0, none⟩)), .int .i64 0] from rfl, splice_set2 (by have := HBK.out.len; omega), List.getElem?_set_ne (by omega), List.getElem?_set_ne (by omega)]
      exact HZ.out)
    have f65' := hW3.frozen 65
    have HS4 := Lib.hid hs4
    clear hs4 hU hU3 hW3 q65 f65 q0
    go_upto_region 4 with (fail)
    have hs4 := HS4.out
    clear q65' f65' HS4
    generalize w3.setCell ⟨it, 65, none⟩ (.int .i64 0) = w4 at *
    have hU4 := hs4.upd
    have hS4 := HSN.out w4 hU4
    have HF := Lib.hid (itfirst S H _ L w HND.out hH it hit w4 _ H _ L [] [] [] 0 _ hs4)
    have HS4 := Lib.hid hS4
    clear hs4 hU4 hS4
    go_wp2_with (go_at_call 164; refine HF.out.mono ?_; rintro e w5 ⟨rfl, v', l', B', fs', cells', hst⟩)
    have hU5 := hst.upd
    have hS5 := HSN.out w5 hU5
    obtain ⟨f', hn'⟩ := hst.ctx.node HND.out
    have hl' : 0 < l'.length := List.length_pos_iff.2 hn'.ne
    exact bodyPost_end (v := .tuple #[]) (by simp [results, Tryz.results120, go_sem]) rfl ⟨rfl, hU5.by_, HM.out.keep (fun _ h => h) hS5, hit, .inr ⟨H, _, v', l', [], B', fs', 0, cells', HND.out.imp fun _ h => h.keep (fun _ h => h) hS5, hH, hst.rebase hit, hl', by simp⟩⟩

set_option maxHeartbeats 4000000 in
set_option maxRecDepth 100000 in
theorem itLast (kk nn : Int) (S : Nat → Prop) (w : World) (hS : ∀ x, S x → x < w.heap.size) (it p N : Nat) (hN : N < 16 ^ 20) (L : List (Int × Int)) (hM : MapAt kk nn w S p N L) (hit : ¬ S it) (cells : List Value) (hb : Blk w it (some (.pointer (some ⟨p, 0, none⟩))) cells) :
    Calls Tryz.prog 121 #[.pointer (some ⟨it, 0, none⟩)] w fun e w' => e = .returned (.tuple #[]) ∧ w.grownBy w' (some it) ∧ ItAt kk nn w' S it p N L ((L.length : Int) - 1) := by
  have HM := Lib.hid hM
  obtain ⟨root, cv, h1, h2, hSp, hs, hwf, hD⟩ := hM.small hN
  have q0 := hb.whole.cell hb.c0
  obtain ⟨z, hz⟩ := hb.deep
  have q65 := hb.whole.cell hz
  have f65 := hb.whole.frozen 65
  have HBK := Lib.hid hb
  have HSR := Lib.hid hs
  have HWF := Lib.hid hwf
  have hpi : p ≠ it := fun e => hit (e ▸ hSp)
  have hSn : ∀ w', Upd it w w' → ∀ b, S b → w'.heap[b]? = w.heap[b]? := fun w' hU b hb => hU.heap (fun e => hit (e ▸ hb))
  have HSN := Lib.hid hSn
  have HZ := Lib.hid hz
  clear hM hb hs hwf hz hSn
  rcases hD with ⟨rfl, rfl⟩ | ⟨hne, hok, H, a, hH, rfl, hnode⟩
  · go_enter Tryz.func121, Tryz.ntmps121
    go_wp2
    obtain ⟨cells', hd⟩ := HBK.out.done
    have hU := hd.upd
    exact bodyPost_ret (v := .tuple #[]) (by simp [results, Tryz.results121, go_sem]) rfl ⟨rfl, hU.by_, HM.out.keep (fun _ h => h) (HSN.out _ hU), hit, .inl ⟨by simp, cells', Upd.refl _ _, hd.whole, hd.len, hd.c0, hd.depth, hd.ints⟩⟩
  · have HND := Lib.hid hnode
    have HOK := Lib.hid hok
    have HNE := Lib.hid hne
    clear hnode hok hne
    go_enter Tryz.func121, Tryz.ntmps121
    go_upto_region 2 with (fail)
    refine wp_region_still_tail 12 (by kernel_rfl) (by kernel_rfl) ?_
    change wpStill _ _ w.drew _ _ _
    simp only [List.take_succ_cons, List.take_zero, List.drop_succ_cons, List.drop_zero]
    repeat still_step
    refine wpStill_nil ?_
    refine wpList_storeN (w := w.drew) rfl _ _ _ rfl it 1 #[.iface (ty H) (.pointer (some ⟨a, 0, none⟩)), .int .i64 0] (by first | rfl | simp [Act.eval]) rfl _ 281 HBK.out.whole (by kernel_rfl) (by rw [HBK.out.len]; simp) (by intro u hu; simp at hu; rcases hu with rfl | rfl <;> rfl) ?_
    intro w3 hW3 hU3
    have hU := upd_drew hU3
    have hs4 := HBK.out.root (S := S) (H := H) (L := L) hU hW3
    have q65' : w3.cell? ⟨it, 65, none⟩ = some (.int .i64 z) := hW3.cell (j := 65) (by
      rw [show (#[.iface (ty H) (.pointer (some ⟨a, 0, none⟩)), .int .i64 0] : Array Value).toList = [.iface (ty H) (.pointer (some ⟨a, 0, none⟩)), .int .i64 0] from rfl, splice_set2 (by have := HBK.out.len; omega), List.getElem?_set_ne (by omega), List.getElem?_set_ne (by omega)]
      exact HZ.out)
    have f65' := hW3.frozen 65
    have HS4 := Lib.hid hs4
    clear hs4 hU hU3 hW3 q65 f65 q0
    go_upto_region 4 with (fail)
    have hs4 := HS4.out
    clear q65' f65' HS4
    generalize w3.setCell ⟨it, 65, none⟩ (.int .i64 0) = w4 at *
    have hU4 := hs4.upd
    have hS4 := HSN.out w4 hU4
    have HF := Lib.hid (itlast S H _ L w HND.out hH it hit w4 _ H _ L [] [] [] 0 _ hs4)
    have HS4 := Lib.hid hS4
    clear hs4 hU4 hS4
    go_wp2_with (go_at_call 165; refine HF.out.mono ?_; rintro e w5 ⟨rfl, v', l', A', fs', cells', m, hm, hst⟩)
    have hU5 := hst.upd
    have hS5 := HSN.out w5 hU5
    have hsp := congrArg List.length hst.ctx.split
    simp only [List.length_append, List.length_nil] at hsp
    exact bodyPost_end (v := .tuple #[]) (by simp [results, Tryz.results121, go_sem]) rfl ⟨rfl, hU5.by_, HM.out.keep (fun _ h => h) hS5, hit, .inr ⟨H, _, v', l', A', [], fs', m, cells', HND.out.imp fun _ h => h.keep (fun _ h => h) hS5, hH, hst.rebase hit, by omega, by omega⟩⟩

end Nis
end Go.Proofs.YtfejflhgaphilaaGreatDoor

namespace Go.Proofs.YtfejflhgaphilaaGreatDoor
open Go.RowKit Go.Sort Lst
namespace Nis

theorem ItAt.depth {kk nn : Int} {w : World} {S : Nat → Prop} {it p N : Nat} {L : List (Int × Int)} {t : Int} (h : ItAt kk nn w S it p N L t) : ∃ cells z, Blk w it (some (.pointer (some ⟨p, 0, none⟩))) cells ∧ cells[65]? = some (.int .i64 z) ∧ (z == -1) = decide (t < 0) := by
  obtain ⟨_, _, h⟩ := h
  rcases h with ⟨rfl, cells, hd⟩ | ⟨H, root, v, l, A, B, fs, j, cells, _, _, hs, hj, rfl⟩
  · exact ⟨cells, -1, hd.blk, hd.depth, rfl⟩
  · refine ⟨cells, _, hs.blk, hs.depth, ?_⟩
    have h1 : ((fs.length : Int) == -1) = false := by rw [beq_eq_false_iff_ne]; omega
    have h2 : decide ((A.length : Int) + j < 0) = false := by simp; omega
    rw [h1, h2]

theorem itDone (kk nn : Int) (S : Nat → Prop) (w : World) (it p N : Nat) (L : List (Int × Int)) (t : Int) (h : ItAt kk nn w S it p N L t) :
    Calls Tryz.prog 122 #[.pointer (some ⟨it, 0, none⟩)] w fun e w' => e = .returned (.bool (decide (t < 0))) ∧ w' = w := by
  obtain ⟨cells, z, hb, hz, he⟩ := h.depth
  have q65 := hb.whole.cell hz
  have HE := Lib.hid he
  clear h hb hz he
  go_enter Tryz.func122, Tryz.ntmps122
  go_wp2
  go_ret
  exact ⟨by first | rfl | (rw [HE.out]; rfl), rfl⟩

theorem ItAt.grow {kk nn : Int} {w w' : World} {S : Nat → Prop} {it p N : Nat} {L : List (Int × Int)} {t : Int} (h : ItAt kk nn w S it p N L t) (hS : ∀ x, S x → x < w.heap.size) (hB : Below w.heap.size w w') : ItAt kk nn w' S it p N L t := by
  obtain ⟨hm, hi, h⟩ := h
  refine ⟨hm.keep (fun _ h => h) (fun b hb => hB.block b (hS b hb)), hi, ?_⟩
  rcases h with ⟨h1, cells, hd⟩ | ⟨H, root, v, l, A, B, fs, j, cells, hn, hH, hs, hj, ht⟩
  · exact .inl ⟨h1, cells, Upd.refl _ _, hd.whole.grow hB, hd.len, hd.c0, hd.depth, hd.ints⟩
  · exact .inr ⟨H, root, v, l, A, B, fs, j, cells, hn.imp fun _ h => h.keep (fun _ h => h) (fun b hb => hB.block b (hS b hb)), hH, hs.grow hS hB, hj, ht⟩

set_option maxHeartbeats 4000000 in
set_option maxRecDepth 100000 in
theorem itNext_at (kk nn : Int) (S : Nat → Prop) (w : World) (hS : ∀ x, S x → x < w.heap.size) (it p N : Nat) (L : List (Int × Int)) (n : Nat) (x : Int × Int) (hx : L[n]? = some x) (hi : ItAt kk nn w S it p N L n) :
    Calls Tryz.prog 136 #[.pointer (some ⟨it, 0, none⟩)] w fun e w' => e = .returned (.tuple #[Value.int IntKind.i64 x.1, val x.2, .bool true]) ∧ w.grownBy w' (some it) ∧ ItAt kk nn w' S it p N L (landed (n + 1) L.length) := by
  have hn0 : decide ((n : Int) < 0) = false := by simp
  have hB := gNew w (.cells #[] 157)
  have hi1 := hi.grow hS hB
  have hS1 : ∀ x, S x → x < (w.alloc (.cells #[] 157)).heap.size := fun x hx => Nat.lt_of_lt_of_le (hS x hx) hB.size
  have HB := Lib.hid hB
  have HDN := Lib.hid (itDone kk nn S _ it p N L n hi1)
  clear hi hB
  go_enter Tryz.func136, Tryz.ntmps136
  go_upto_region 3 with (go_at_call 122; refine HDN.out.mono ?_; rintro e w1 ⟨rfl, rfl⟩)
  clear HDN
  generalize w.alloc (.cells #[] 157) = wa at *
  obtain ⟨hm, hit, hd⟩ := hi1
  rcases hd with ⟨hneg, _⟩ | ⟨H, root, v, l, A, B, fs, j, cells, hnr, hH, hs, hj, ht⟩
  · omega
  have hdep := hs.ctx.depth
  obtain ⟨f, hnode⟩ := hs.ctx.node hnr
  obtain ⟨a, b, o, cap, hv, hSa, hSb, h4, hcap, _, h0, h32, _, hR, ecs, efr, hE⟩ := hnode
  change v = .iface 265 (.pointer (some ⟨a, 0, none⟩)) at hv
  subst hv
  have hnj : n = A.length + j := by omega
  have hlj : l[j]? = some x := by
    have := hs.ctx.split
    rw [← this, hnj, List.append_assoc, List.getElem?_append_right (by omega), Nat.add_sub_cancel_left, List.getElem?_append_left hj] at hx
    exact hx
  have qk : wa.cell? ⟨b, o + j * 1, none⟩ = some (Value.int IntKind.i64 x.1) := by simpa using hR (j * 1) _ (flat_get entis hlj (j := 0) (by decide))
  rw [Nat.mul_one] at qk
  have g6 := partE wa.drew.drew.drew b (o + j) hE
  have q65 := hs.whole.cell hs.depth
  have qv := hs.whole.cell hs.stk.top.1
  have qj := hs.whole.cell hs.stk.top.2
  have hj1 : (j : Int) < (l.length : Int) := by omega
  have hd1 : (fs.length : Int) < 32 := by omega
  have hd2 : fs.length < 32 := by omega
  have hd3 : fs.length < 31 := by omega
  have ta := taL
  have HM := Lib.hid hm
  have HS := Lib.hid hs
  have HNR := Lib.hid hnr
  have HNJ := Lib.hid hnj
  have HLEN : Hid (A.length + l.length + B.length = L.length) := by have := congrArg List.length hs.ctx.split; rw [List.length_append, List.length_append] at this; exact this
  clear hm hs hnr hR hdep hx hlj ht hnj hE
  refine wp_region_still_lit (by kernel_rfl) (by kernel_rfl) ?_
  change wpStill _ _ (wa).drew _ _ _
  repeat still_step
  refine wpStill_nil ?_
  change Exit.then _ _ _ _ (wa).drew
  go_upto_region 5 with (fail)
  refine wp_region_still_lit (by kernel_rfl) (by kernel_rfl) ?_
  change wpStill _ _ (wa).drew.drew _ _ _
  repeat still_step
  refine wpStill_nil ?_
  change Exit.then _ _ _ _ (wa).drew.drew
  go_upto_region 6 with (fail)
  refine wp_region_still_tail 9 (by kernel_rfl) (by kernel_rfl) ?_
  change wpStill _ _ (wa).drew.drew.drew _ _ _
  simp only [List.take_succ_cons, List.take_zero, List.drop_succ_cons, List.drop_zero]
  repeat still_step
  refine wpStill_nil ?_
  change wpList _ _ _ _ _ wa.drew.drew.drew
  go_upto_region 7 with (fail)
  have hs3 := (HS.out.drew.drew.drew).rebase hit
  have hnr3 : ∃ f, Node Iis (wa).drew.drew.drew S H root L f := HNR.out.imp fun _ h => Node.keep (w := wa) (w' := (wa).drew.drew.drew) (fun _ h => h) (fun _ _ => rfl) h
  have hm3 : MapAt kk nn (wa).drew.drew.drew S p N L := MapAt.keep (w := wa) (w' := (wa).drew.drew.drew) HM.out (fun _ h => h) (fun _ _ => rfl)
  have hB3 : Below w.heap.size w (wa).drew.drew.drew := gTrans HB.out (gDrewN (gRefl _) 3)
  clear HS HNR HM HB q65 qv qj qk h4
  generalize (wa).drew.drew.drew = w3 at *
  have hrw := itnext S H _ L w3 hnr3 hH it hit w3 _ _ l A B fs j _ hs3 (Nat.le_of_lt hj) ((n : Int) + 1) (by have := HNJ.out; rw [Nat.min_eq_left (by omega)]; omega)
  have HNX := Lib.hid hrw
  have HM3 := Lib.hid hm3
  have HB3 := Lib.hid hB3
  have hnr4 : ∀ w4, (∀ b, S b → w4.heap[b]? = w3.heap[b]?) → ∃ f, Node Iis w4 S H _ L f := fun w4 h4 => hnr3.imp fun _ h => h.keep (fun _ h => h) h4
  clear hrw hs3 hm3 hB3 hnr3
  go_upto_region 8 with (go_at_call 173; refine HNX.out.mono ?_; rintro e w4 ⟨rfl, hat⟩)
  have hU := hat.upd
  have hS4 : ∀ b, S b → w4.heap[b]? = w3.heap[b]? := fun b hb => hU.heap (fun e => hit (e ▸ hb))
  have hlen := HLEN.out
  have hfin : w.grownBy w4 (some it) ∧ ItAt kk nn w4 S it p N L (landed (n + 1) L.length) := by
    refine ⟨frm_self (frm_of HB3.out) hU, HM3.out.keep (fun _ h => h) hS4, hit, ?_⟩
    rcases hat.rebase hit with ⟨he, cells', hd⟩ | ⟨v', l', A', B', fs', j', cells', hst, hj', ht⟩
    · exact .inl ⟨by unfold landed; rw [if_pos (by omega)], cells', hd⟩
    · have hsp := congrArg List.length hst.ctx.split
      simp only [List.length_append] at hsp
      exact .inr ⟨H, _, v', l', A', B', fs', j', cells', hnr4 w4 hS4, hH, hst, hj', by unfold landed; rw [if_neg (by omega)]; simpa using ht⟩
  have HFIN := Lib.hid hfin
  clear hfin hU hS4 hat hlen
  go_region_with (fail)
  all_goals
    go_wp2_with fail
    exact bodyPost_ret (v := .tuple #[Value.int IntKind.i64 x.1, val x.2, .bool true]) (by simp [results, Tryz.results136, go_sem]) rfl ⟨rfl, frm_below HFIN.out.1 (gDrewN (gRefl w4) 1), HFIN.out.2.grow (fun x hx => Nat.lt_of_lt_of_le (hS x hx) HFIN.out.1.size) (gDrewN (gRefl w4) 1)⟩
end Nis
end Go.Proofs.YtfejflhgaphilaaGreatDoor

/-
  THE WALKS of an iterator's first and last, instance ii.
  THE WALK of an iterator's next, instance ii.
  THE WALK of an iterator's prev, instance ii.
-/
import Derived.Test.YtfejflhgaphilaaGreatDoorVFII
import Derived.Test.YtfejflhgaphilaaGreatDoorVC
set_option linter.all false
set_option linter.unusedVariables false
set_option linter.unusedSimpArgs false
set_option linter.unusedSectionVars false
namespace Go.Proofs.YtfejflhgaphilaaGreatDoor
open Go.RowKit Go.Sort Lst
namespace Nii

/-! ### What a node's type is -/
theorem taBB (v : Value) (w : World) : (Instr.typeAssert (.iface 298 v) 202 298 true).run Tryz.prog w = .ok (.tuple #[v, .bool true]) w := by kernel_rfl
theorem taBL (v : Value) (w : World) : (Instr.typeAssert (.iface 298 v) 202 212 true).run Tryz.prog w = .ok (.tuple #[.pointer none, .bool false]) w := by kernel_rfl
theorem taLB (v : Value) (w : World) : (Instr.typeAssert (.iface 212 v) 202 298 true).run Tryz.prog w = .ok (.tuple #[.pointer none, .bool false]) w := by kernel_rfl
theorem taLL (v : Value) (w : World) : (Instr.typeAssert (.iface 212 v) 202 212 true).run Tryz.prog w = .ok (.tuple #[v, .bool true]) w := by kernel_rfl
theorem taL (v : Value) (w : World) : (Instr.typeAssert (.iface 212 v) 202 212 false).run Tryz.prog w = .ok v w := by kernel_rfl

/-- The iterator's block, with the topmost pair of its stack. -/
structure Sta (w wr : World) (it : Nat) (S : Nat → Prop) (H : Nat) (root : Value) (L : List (Int × Int)) (c0 : Option Value) (h : Nat) (v : Value) (l A B : List (Int × Int)) (fs : List (Value × Nat)) (j : Nat) (cells : List Value) : Prop where
  upd : Upd it w wr
  whole : Whole wr it cells 210
  len : cells.length = 66
  c0 : cells[0]? = c0
  depth : cells[65]? = some (.int .i64 fs.length)
  ctx : Ctx Iii w S H root L h v l A B fs
  stk : Stk cells (v, j) fs
  ints : ∀ i, i < 32 → ∃ n : Nat, cells[1 + i * 2 + 1]? = some (.int .i64 (n : Int))

theorem Sta.drew {w wr : World} {it : Nat} {S : Nat → Prop} {H : Nat} {root : Value} {L : List (Int × Int)} {c0 : Option Value} {h : Nat} {v : Value} {l A B : List (Int × Int)} {fs : List (Value × Nat)} {j : Nat} {cells : List Value}
    (hs : Sta w wr it S H root L c0 h v l A B fs j cells) : Sta w wr.drew it S H root L c0 h v l A B fs j cells :=
  ⟨⟨⟨hs.upd.by_.os, hs.upd.by_.tape, hs.upd.by_.output, hs.upd.by_.size, hs.upd.by_.block⟩, hs.upd.size⟩, hs.whole, hs.len, hs.c0, hs.depth, hs.ctx, hs.stk, hs.ints⟩

/-- The topmost index is turned. -/
theorem Sta.turn {w wr : World} {it : Nat} {S : Nat → Prop} {H : Nat} {root : Value} {L : List (Int × Int)} {c0 : Option Value} {h : Nat} {v : Value} {l A B : List (Int × Int)} {fs : List (Value × Nat)} {j : Nat} {cells : List Value}
    (hs : Sta w wr it S H root L c0 h v l A B fs j cells) (hd : fs.length < 31) (i : Nat) :
    Sta w (wr.setCell ⟨it, 1 + fs.length * 2 + 1, none⟩ (.int .i64 (i : Int))) it S H root L c0 h v l A B fs i (cells.set (1 + fs.length * 2 + 1) (.int .i64 (i : Int))) := by
  obtain ⟨h1, h2⟩ := whole_set hs.whole (.int .i64 (i : Int)) (i := 1 + fs.length * 2 + 1) (by rw [hs.len]; omega)
  exact ⟨hs.upd.trans h2, h1, by simp [hs.len], by rw [List.getElem?_set_ne (by omega)]; exact hs.c0, by rw [List.getElem?_set_ne (by omega)]; exact hs.depth, hs.ctx, hs.stk.turn (by rw [hs.len]; omega), fun n hn => by
    by_cases e : n = fs.length
    · subst e; exact ⟨i, by rw [List.getElem?_set_self (by rw [hs.len]; omega)]⟩
    · rw [List.getElem?_set_ne (by omega)]; exact hs.ints n hn⟩

/-- What lies in a stack onto which a pair is laid. -/
theorem push_facts {cells : List Value} {v u : Value} {q j : Nat} {fs : List (Value × Nat)} {c0 : Option Value} (hl : cells.length = 66) (h0 : cells[0]? = c0) (h65 : cells[65]? = some (.int .i64 fs.length)) (hs : Stk cells (v, q) fs)
    (hi : ∀ i, i < 32 → ∃ n : Nat, cells[1 + i * 2 + 1]? = some (.int .i64 (n : Int))) (hd : fs.length < 31) :
    (splice cells (1 + (fs.length + 1) * 2) [u, .int .i64 (j : Int)]).length = 66 ∧ (splice cells (1 + (fs.length + 1) * 2) [u, .int .i64 (j : Int)])[0]? = c0 ∧ (splice cells (1 + (fs.length + 1) * 2) [u, .int .i64 (j : Int)])[65]? = some (.int .i64 fs.length) ∧
    Stk (splice cells (1 + (fs.length + 1) * 2) [u, .int .i64 (j : Int)]) (u, j) ((v, q) :: fs) ∧ ∀ i, i < 32 → ∃ n : Nat, (splice cells (1 + (fs.length + 1) * 2) [u, .int .i64 (j : Int)])[1 + i * 2 + 1]? = some (.int .i64 (n : Int)) := by
  have e := splice_set2 (cells := cells) (n := 1 + (fs.length + 1) * 2) (u := u) (x := .int .i64 (j : Int)) (by omega)
  refine ⟨by rw [e]; simp [hl], ?_, ?_, hs.push (by rw [hl]; omega), fun i hin => ?_⟩
  · rw [e, List.getElem?_set_ne (by omega), List.getElem?_set_ne (by omega)]; exact h0
  · rw [e, List.getElem?_set_ne (by omega), List.getElem?_set_ne (by omega)]; exact h65
  · rw [e]
    by_cases e1 : i = fs.length + 1
    · subst e1; exact ⟨j, by rw [List.getElem?_set_self (by simp; omega)]⟩
    · rw [List.getElem?_set_ne (by omega), List.getElem?_set_ne (by omega)]; exact hi i hin

/-- The depth is raised: a child is entered. -/
theorem Sta.down {w w3 : World} {it : Nat} {S : Nat → Prop} {H : Nat} {root : Value} {L : List (Int × Int)} {c0 : Option Value} {h a b o cap q j : Nat} {v : Value} {A B : List (Int × Int)} {fs : List (Value × Nat)} {ks : List (Kid Int)} {c : Kid Int} {cells : List Value}
    (hc : Ctx Iii w S H root L (h + 1) v (ks.map (·.l)).flatten A B fs) (hb : BranchAt Iii w S h v ks a b o cap) (hq : ks[q]? = some c) (hd : fs.length < 31)
    (hU : Upd it w w3) (hW : Whole w3 it cells 210) (hl : cells.length = 66) (h0 : cells[0]? = c0) (hs : Stk cells (c.v, j) ((v, q) :: fs)) (hi : ∀ i, i < 32 → ∃ n : Nat, cells[1 + i * 2 + 1]? = some (.int .i64 (n : Int))) :
    Sta w (w3.setCell ⟨it, 65, none⟩ (.int .i64 ((fs.length : Int) + 1))) it S H root L c0 h c.v c.l (A ++ ((ks.take q).map (·.l)).flatten) (((ks.drop (q + 1)).map (·.l)).flatten ++ B) ((v, q) :: fs) j (cells.set 65 (.int .i64 ((fs.length : Int) + 1))) := by
  obtain ⟨h1, h2⟩ := whole_set hW (.int .i64 ((fs.length : Int) + 1)) (i := 65) (by rw [hl]; omega)
  refine ⟨hU.trans h2, h1, by simp [hl], by rw [List.getElem?_set_ne (by omega)]; exact h0, by rw [List.getElem?_set_self (by rw [hl]; omega)]; simp, .down hc hb hq, hs.set (by simp; omega), fun i hin => ?_⟩
  rw [List.getElem?_set_ne (by omega)]; exact hi i hin

set_option maxHeartbeats 4000000 in
set_option maxRecDepth 100000 in
theorem itfirst (S : Nat → Prop) (H : Nat) (root : Value) (L : List (Int × Int)) (w : World) (hroot : ∃ f, Node Iii w S H root L f) (hH : H ≤ 20) (it : Nat) (hit : ¬ S it) (wr0 : World) (c0 : Option Value)
    (h : Nat) (v : Value) (l A B : List (Int × Int)) (fs : List (Value × Nat)) (j : Nat) (cells : List Value) (hs : Sta w wr0 it S H root L c0 h v l A B fs j cells) :
    Calls Tryz.prog 134 #[.pointer (some ⟨it, 0, none⟩)] wr0 fun e w' => e = .returned (.tuple #[]) ∧ ∃ v' l' B' fs' cells', Sta w w' it S H root L c0 0 v' l' A B' fs' 0 cells' := by
  have HS := Lib.hid hs
  clear hs
  go_enter Tryz.func134, Tryz.ntmps134
  go_wp2_with fail
  go_loopg [2] h (fun k s2 wr => ∃ v l B fs j cells, Sta w wr it S H root L c0 k v l A B fs j cells)
  case atStart => exact ⟨_, _, _, _, _, _, HS.out⟩
  case round =>
    obtain ⟨v, l, B, fs, j, cells, hs⟩ := hrel
    have hdep := hs.ctx.depth
    obtain ⟨f, hnode⟩ := hs.ctx.node hroot
    obtain ⟨a, hv⟩ := node_ptr hnode
    subst hv
    have q65 := hs.whole.cell hs.depth
    have hd1 : (fs.length : Int) < 32 := by omega
    have hd2 : fs.length < 32 := by omega
    have hd3 : fs.length < 31 := by omega
    have HS := Lib.hid hs.drew
    have HD := Lib.hid hdep
    have HN := Lib.hid hnode
    clear hs hdep hnode
    go_upto_region 0 with (fail)
    refine wp_region_still_lit (by kernel_rfl) (by kernel_rfl) ?_
    change wpStill _ _ wr.drew _ _ _
    repeat still_step
    refine wpStill_nil ?_
    change Exit.then _ _ _ _ wr.drew
    clear q65
    generalize wr.drew = w1 at *
    obtain ⟨t1, t2⟩ := HS.out.stk.top
    have qj := HS.out.whole.cell t2
    have fj := HS.out.whole.frozen (1 + fs.length * 2 + 1)
    clear t1 t2
    go_upto_region 2 with (fail)
    have hs2 := HS.out.turn hd3 0
    clear HS qj fj
    generalize w1.setCell ⟨it, 1 + fs.length * 2 + 1, none⟩ (.int .i64 ((0 : Nat) : Int)) = w2 at *
    have q65 := hs2.whole.cell hs2.depth
    have qv := hs2.whole.cell hs2.stk.top.1
    have qj : w2.cell? ⟨it, 1 + fs.length * 2 + 1, none⟩ = some (.int .i64 0) := hs2.whole.cell hs2.stk.top.2
    have HS := Lib.hid hs2
    clear hs2
    cases gk with
    | zero =>
      change w2.cell? ⟨it, 1 + fs.length * 2, none⟩ = some (.iface 212 (.pointer (some ⟨a, 0, none⟩))) at qv
      have ta1 := taLB
      have ta2 := taLL
      go_wp2
      exact bodyPost_ret (v := .tuple #[]) (by simp [results, Tryz.results134, go_sem]) rfl ⟨rfl, _, _, _, _, _, HS.out⟩
    | succ k =>
      change w2.cell? ⟨it, 1 + fs.length * 2, none⟩ = some (.iface 298 (.pointer (some ⟨a, 0, none⟩))) at qv
      obtain ⟨ks, a', b, o, cap, hb, hl⟩ := Node.branch HN.out
      have hp := hb.ptr
      injection hp with _ hp
      injection hp with hp
      injection hp with hp
      injection hp with hp _ _
      subst hp hl
      obtain ⟨c, hc⟩ : ∃ c, ks[0]? = some c := ⟨_, List.getElem?_eq_getElem hb.pos⟩
      obtain ⟨ca, hca⟩ := node_ptr (hb.kids c (List.mem_of_getElem? hc))
      have hU := HS.out.upd
      have q4 := hU.cell (p := ⟨a, 0, none⟩) (fun e => hit (e ▸ hb.sa)) hb.cell
      have q5 : w2.cell? ⟨b, o + 1, none⟩ = some (.iface (ty k) (.pointer (some ⟨ca, 0, none⟩))) := by
        rw [← hca]; exact hU.cell (p := ⟨b, o + 1, none⟩) (fun e => hit (e ▸ hb.sb)) (hb.row 1 _ (flat_get pay_len hc (j := 1) (by decide)))
      have hn0 : (0 : Int) < (ks.length : Int) := by have := hb.pos; omega
      have hn1 := hb.pos
      have hw1 : IntKind.i64.wrap ((fs.length : Int) + 1) = (fs.length : Int) + 1 := IntWalk.i64_in _ (by omega)
      have hd4 : (fs.length : Int) + 1 < 32 := by omega
      have hd5 : fs.length + 1 < 32 := by omega
      have hd6 : (0 : Int) ≤ (fs.length : Int) + 1 := by omega
      have HB := Lib.hid hb
      have HC := Lib.hid hc
      have HCA := Lib.hid hca
      clear hU hb hc hca
      have ta1 := taBB
      go_upto_region 5 with (fail)
      refine wp_region_still_tail 21 (by kernel_rfl) (by kernel_rfl) ?_
      change wpStill _ _ w2.drew _ _ _
      simp only [List.take_succ_cons, List.take_zero, List.drop_succ_cons, List.drop_zero]
      repeat still_step
      refine wpStill_nil ?_
      obtain ⟨p1, p2, p3, p4, p5⟩ := push_facts (u := .iface (ty k) (.pointer (some ⟨ca, 0, none⟩))) (j := 0) HS.out.len HS.out.c0 HS.out.depth HS.out.stk HS.out.ints hd3
      refine wpList_storeN (w := w2.drew) rfl _ _ _ rfl it (1 + (fs.length + 1) * 2) #[.iface (ty k) (.pointer (some ⟨ca, 0, none⟩)), .int .i64 0] (by first | rfl | simp [Act.eval]) rfl _ 210 HS.out.whole (by kernel_rfl) (by rw [HS.out.len]; simp; omega) (by intro u hu; simp at hu; rcases hu with rfl | rfl <;> rfl) ?_
      intro w3 hW3 hU3
      have P := Lib.hid (And.intro p1 (And.intro p2 (And.intro p4 p5)))
      have HW3 := Lib.hid hW3
      have HU3 := Lib.hid (HS.out.upd.trans (upd_drew hU3))
      have q65 := hW3.cell p3
      have f65 := hW3.frozen 65
      clear p1 p2 p3 p4 p5 hW3 hU3 qv qj q4 q5
      go_wp2
      go_roundg k
      case measure => omega
      case rel =>
        obtain ⟨p1, p2, p4, p5⟩ := P.out
        have hdn := Sta.down (q := 0) (j := 0) HS.out.ctx HB.out HC.out hd3 HU3.out HW3.out p1 p2 (by rw [HCA.out]; exact p4) p5
        rw [HCA.out] at hdn
        simp only [List.take_zero, List.map_nil, List.flatten_nil, List.append_nil] at hdn
        exact ⟨_, _, _, _, _, _, hdn⟩

set_option maxHeartbeats 4000000 in
set_option maxRecDepth 100000 in
theorem itlast (S : Nat → Prop) (H : Nat) (root : Value) (L : List (Int × Int)) (w : World) (hroot : ∃ f, Node Iii w S H root L f) (hH : H ≤ 20) (it : Nat) (hit : ¬ S it) (wr0 : World) (c0 : Option Value)
    (h : Nat) (v : Value) (l A B : List (Int × Int)) (fs : List (Value × Nat)) (j : Nat) (cells : List Value) (hs : Sta w wr0 it S H root L c0 h v l A B fs j cells) :
    Calls Tryz.prog 135 #[.pointer (some ⟨it, 0, none⟩)] wr0 fun e w' => e = .returned (.tuple #[]) ∧ ∃ v' l' A' fs' cells' m, l'.length = m + 1 ∧ Sta w w' it S H root L c0 0 v' l' A' B fs' m cells' := by
  have HS := Lib.hid hs
  clear hs
  go_enter Tryz.func135, Tryz.ntmps135
  go_wp2_with fail
  go_loopg [2] h (fun k s2 wr => ∃ v l A fs j cells, Sta w wr it S H root L c0 k v l A B fs j cells)
  case atStart => exact ⟨_, _, _, _, _, _, HS.out⟩
  case round =>
    obtain ⟨v, l, A, fs, j, cells, hs⟩ := hrel
    have hdep := hs.ctx.depth
    obtain ⟨f, hnode⟩ := hs.ctx.node hroot
    obtain ⟨a, hv⟩ := node_ptr hnode
    subst hv
    have q65 := hs.whole.cell hs.depth
    have hd1 : (fs.length : Int) < 32 := by omega
    have hd2 : fs.length < 32 := by omega
    have hd3 : fs.length < 31 := by omega
    have HS := Lib.hid hs.drew
    have HD := Lib.hid hdep
    have HN := Lib.hid hnode
    clear hs hdep hnode
    go_upto_region 0 with (fail)
    refine wp_region_still_lit (by kernel_rfl) (by kernel_rfl) ?_
    change wpStill _ _ wr.drew _ _ _
    repeat still_step
    refine wpStill_nil ?_
    change Exit.then _ _ _ _ wr.drew
    clear q65
    generalize wr.drew = w1 at *
    obtain ⟨t1, t2⟩ := HS.out.stk.top
    have qv := HS.out.whole.cell t1
    have qj := HS.out.whole.cell t2
    have fj := HS.out.whole.frozen (1 + fs.length * 2 + 1)
    clear t1 t2
    cases gk with
    | zero =>
      change w1.cell? ⟨it, 1 + fs.length * 2, none⟩ = some (.iface 212 (.pointer (some ⟨a, 0, none⟩))) at qv
      obtain ⟨a', b, o, cap, hp, hSa, hSb, h4, hcap, _, h0, h32, _, hR, _⟩ := HN.out
      injection hp with _ hp
      injection hp with hp
      injection hp with hp
      injection hp with hp _ _
      subst hp
      have q4 := HS.out.upd.cell (p := ⟨a, 0, none⟩) (fun e => hit (e ▸ hSa)) h4
      obtain ⟨m, hm⟩ : ∃ m, l.length = m + 1 := ⟨l.length - 1, by omega⟩
      have hw1 : IntKind.i64.wrap ((l.length : Int) - 1) = (m : Int) := by rw [IntWalk.i64_in _ (by omega)]; omega
      have HM := Lib.hid hm
      have ta1 := taLB
      have ta2 := taLL
      clear hR h4 hm
      go_wp2
      exact bodyPost_ret (v := .tuple #[]) (by simp [results, Tryz.results135, go_sem]) rfl ⟨rfl, _, _, _, _, _, m, HM.out, HS.out.turn hd3 m⟩
    | succ k =>
      change w1.cell? ⟨it, 1 + fs.length * 2, none⟩ = some (.iface 298 (.pointer (some ⟨a, 0, none⟩))) at qv
      obtain ⟨ks, a', b, o, cap, hb, hl⟩ := Node.branch HN.out
      have hp := hb.ptr
      injection hp with _ hp
      injection hp with hp
      injection hp with hp
      injection hp with hp _ _
      subst hp hl
      obtain ⟨m, hm⟩ : ∃ m, ks.length = m + 1 := ⟨ks.length - 1, by have := hb.pos; omega⟩
      obtain ⟨c, hc⟩ : ∃ c, ks[m]? = some c := ⟨_, List.getElem?_eq_getElem (by omega)⟩
      obtain ⟨ca, hca⟩ := node_ptr (hb.kids c (List.mem_of_getElem? hc))
      have q4 := HS.out.upd.cell (p := ⟨a, 0, none⟩) (fun e => hit (e ▸ hb.sa)) hb.cell
      have h32 := hb.h32
      have hw2 : IntKind.i64.wrap ((ks.length : Int) - 1) = (m : Int) := by rw [IntWalk.i64_in _ (by omega)]; omega
      have HB := Lib.hid hb
      have HC := Lib.hid hc
      have HCA := Lib.hid hca
      have HM := Lib.hid hm
      have ta1 := taBB
      clear hb hc hca hm
      go_upto_region 5 with (fail)
      have hs2 := HS.out.turn hd3 m
      clear HS qj fj qv q4 hw2
      generalize w1.setCell ⟨it, 1 + fs.length * 2 + 1, none⟩ (.int .i64 (m : Int)) = w2 at *
      have q65 := hs2.whole.cell hs2.depth
      have qj := hs2.whole.cell hs2.stk.top.2
      have q4 := hs2.upd.cell (p := ⟨a, 0, none⟩) (fun e => hit (e ▸ HB.out.sa)) HB.out.cell
      have q5 : w2.cell? ⟨b, o + m * 2 + 1, none⟩ = some (.iface (ty k) (.pointer (some ⟨ca, 0, none⟩))) := by
        rw [← HCA.out, Nat.add_assoc]; exact hs2.upd.cell (p := ⟨b, o + (m * 2 + 1), none⟩) (fun e => hit (e ▸ HB.out.sb)) (HB.out.row _ _ (flat_get pay_len HC.out (j := 1) (by decide)))
      have HS := Lib.hid hs2
      clear hs2
      have hn0 : (m : Int) < (ks.length : Int) := by have := HM.out; omega
      have hn1 : m < ks.length := by have := HM.out; omega
      have hw1 : IntKind.i64.wrap ((fs.length : Int) + 1) = (fs.length : Int) + 1 := IntWalk.i64_in _ (by omega)
      have hd4 : (fs.length : Int) + 1 < 32 := by omega
      have hd5 : fs.length + 1 < 32 := by omega
      have hd6 : (0 : Int) ≤ (fs.length : Int) + 1 := by omega
      refine wp_region_still_tail 21 (by kernel_rfl) (by kernel_rfl) ?_
      change wpStill _ _ w2.drew _ _ _
      simp only [List.take_succ_cons, List.take_zero, List.drop_succ_cons, List.drop_zero]
      repeat still_step
      refine wpStill_nil ?_
      obtain ⟨p1, p2, p3, p4, p5⟩ := push_facts (u := .iface (ty k) (.pointer (some ⟨ca, 0, none⟩))) (j := 0) HS.out.len HS.out.c0 HS.out.depth HS.out.stk HS.out.ints hd3
      refine wpList_storeN (w := w2.drew) rfl _ _ _ rfl it (1 + (fs.length + 1) * 2) #[.iface (ty k) (.pointer (some ⟨ca, 0, none⟩)), .int .i64 0] (by first | rfl | simp [Act.eval]) rfl _ 210 HS.out.whole (by kernel_rfl) (by rw [HS.out.len]; simp; omega) (by intro u hu; simp at hu; rcases hu with rfl | rfl <;> rfl) ?_
      intro w3 hW3 hU3
      have P := Lib.hid (And.intro p1 (And.intro p2 (And.intro p4 p5)))
      have HW3 := Lib.hid hW3
      have HU3 := Lib.hid (HS.out.upd.trans (upd_drew hU3))
      have q65 := hW3.cell p3
      have f65 := hW3.frozen 65
      clear p1 p2 p3 p4 p5 hW3 hU3 qj q4 q5
      go_wp2
      go_roundg k
      case measure => omega
      case rel =>
        obtain ⟨p1, p2, p4, p5⟩ := P.out
        have hdn := Sta.down (q := m) (j := 0) HS.out.ctx HB.out HC.out hd3 HU3.out HW3.out p1 p2 (by rw [HCA.out]; exact p4) p5
        rw [HCA.out] at hdn
        rw [List.drop_of_length_le (by rw [HM.out]; exact Nat.le_refl _)] at hdn
        simp only [List.map_nil, List.flatten_nil, List.nil_append] at hdn
        exact ⟨_, _, _, _, _, _, hdn⟩
end Nii
end Go.Proofs.YtfejflhgaphilaaGreatDoor

namespace Go.Proofs.YtfejflhgaphilaaGreatDoor
open Go.RowKit Go.Sort Lst
namespace Nii

/-- The iterator is done. -/
structure Dn (w wr : World) (it : Nat) (c0 : Option Value) (cells : List Value) : Prop where
  upd : Upd it w wr
  whole : Whole wr it cells 210
  len : cells.length = 66
  c0 : cells[0]? = c0
  depth : cells[65]? = some (.int .i64 (-1))
  ints : ∀ i, i < 32 → ∃ n : Nat, cells[1 + i * 2 + 1]? = some (.int .i64 (n : Int))

/-- The iterator stands at t, or is done where t is the end (e). -/
def At (w wr : World) (it : Nat) (S : Nat → Prop) (H : Nat) (root : Value) (L : List (Int × Int)) (c0 : Option Value) (t e : Int) : Prop :=
  (t = e ∧ ∃ cells, Dn w wr it c0 cells) ∨ ∃ v l A B fs j cells, Sta w wr it S H root L c0 0 v l A B fs j cells ∧ j < l.length ∧ t = (A.length : Int) + j

/-- How much of a node's content lies up to the index's own entry, that too. -/
def Up (w : World) (S : Nat → Prop) : Nat → Value → List (Int × Int) → Nat → Nat → Prop
  | 0, _, l, j, u => j ≤ l.length ∧ u = min (j + 1) l.length
  | k + 1, v, l, j, u => ∃ ks a b o cap, BranchAt Iii w S k v ks a b o cap ∧ l = (ks.map (·.l)).flatten ∧ j < ks.length ∧ u = ((ks.take (j + 1)).map (·.l)).flatten.length

/-- The depth is lowered behind a node that is used up. -/
theorem Sta.up {w w2 : World} {it : Nat} {S : Nat → Prop} {H : Nat} {root : Value} {L : List (Int × Int)} {c0 : Option Value} {h : Nat} {v : Value} {l A B : List (Int × Int)} {fs : List (Value × Nat)} {j : Nat} {cells : List Value}
    (hs : Sta w w2 it S H root L c0 h v l A B fs j cells) (hd : fs.length < 31) :
    (fs = [] ∧ A.length + l.length = L.length ∧ ∃ cells', Dn w (w2.setCell ⟨it, 65, none⟩ (.int .i64 ((fs.length : Int) - 1))) it c0 cells') ∨
    ∃ k v' l' A' B' fs' q cells' u, fs.length = fs'.length + 1 ∧ Sta w (w2.setCell ⟨it, 65, none⟩ (.int .i64 ((fs.length : Int) - 1))) it S H root L c0 k v' l' A' B' fs' q cells' ∧ Up w S k v' l' q u ∧ A.length + l.length = A'.length + u := by
  obtain ⟨h1, h2⟩ := whole_set hs.whole (.int .i64 ((fs.length : Int) - 1)) (i := 65) (by rw [hs.len]; omega)
  have hl : (cells.set 65 (.int .i64 ((fs.length : Int) - 1))).length = 66 := by simp [hs.len]
  have h0 : (cells.set 65 (.int .i64 ((fs.length : Int) - 1)))[0]? = c0 := by rw [List.getElem?_set_ne (by omega)]; exact hs.c0
  have h65 : (cells.set 65 (.int .i64 ((fs.length : Int) - 1)))[65]? = some (.int .i64 ((fs.length : Int) - 1)) := by rw [List.getElem?_set_self (by rw [hs.len]; omega)]
  have hi : ∀ i, i < 32 → ∃ n : Nat, (cells.set 65 (.int .i64 ((fs.length : Int) - 1)))[1 + i * 2 + 1]? = some (.int .i64 (n : Int)) := fun i hin => by rw [List.getElem?_set_ne (by omega)]; exact hs.ints i hin
  have hc := hs.ctx
  have hst := hs.stk.set (v := .int .i64 ((fs.length : Int) - 1)) (i := 65) (by omega)
  have hu := hs.upd.trans h2
  generalize cells.set 65 (.int .i64 ((fs.length : Int) - 1)) = cells' at *
  generalize w2.setCell ⟨it, 65, none⟩ (.int .i64 ((fs.length : Int) - 1)) = w3 at *
  clear hs h2
  cases hc with
  | top => exact .inl ⟨rfl, by simp, cells', hu, h1, hl, h0, by simpa using h65, hi⟩
  | @down _ a b o cap q pv A' B' fs' ks c hp hb hq =>
    refine .inr ⟨_, pv, _, A', B', fs', q, cells', ((ks.take (q + 1)).map (·.l)).flatten.length, rfl, ⟨hu, h1, hl, h0, ?_, hp, hst.2.2, hi⟩, ⟨ks, a, b, o, cap, hb, rfl, (List.getElem?_eq_some_iff.1 hq).1, rfl⟩, ?_⟩
    · rw [h65]; simp
    · rw [List.take_succ_eq_append_getElem (List.getElem?_eq_some_iff.1 hq).1, (List.getElem?_eq_some_iff.1 hq).2]
      simp
      omega

theorem updDrew {g : Nat} {w a : World} (h : Upd g w a) : Upd g w a.drew := ⟨⟨h.by_.os, h.by_.tape, h.by_.output, h.by_.size, h.by_.block⟩, h.size⟩

/-- A child's node is laid on the stack; the index beneath it stays what it was. -/
theorem put_facts {cells : List Value} {v u : Value} {q : Nat} {fs : List (Value × Nat)} {c0 : Option Value} (hl : cells.length = 66) (h0 : cells[0]? = c0) (h65 : cells[65]? = some (.int .i64 fs.length)) (hs : Stk cells (v, q) fs)
    (hi : ∀ i, i < 32 → ∃ n : Nat, cells[1 + i * 2 + 1]? = some (.int .i64 (n : Int))) (hd : fs.length < 31) :
    (cells.set (1 + (fs.length + 1) * 2) u).length = 66 ∧ (cells.set (1 + (fs.length + 1) * 2) u)[0]? = c0 ∧ (cells.set (1 + (fs.length + 1) * 2) u)[65]? = some (.int .i64 fs.length) ∧
    (∃ j : Nat, Stk (cells.set (1 + (fs.length + 1) * 2) u) (u, j) ((v, q) :: fs)) ∧ ∀ i, i < 32 → ∃ n : Nat, (cells.set (1 + (fs.length + 1) * 2) u)[1 + i * 2 + 1]? = some (.int .i64 (n : Int)) := by
  have hi' : ∀ i, i < 32 → ∃ n : Nat, (cells.set (1 + (fs.length + 1) * 2) u)[1 + i * 2 + 1]? = some (.int .i64 (n : Int)) := fun i hin => by rw [List.getElem?_set_ne (by omega)]; exact hi i hin
  obtain ⟨j, hj⟩ := hi' (fs.length + 1) (by omega)
  exact ⟨by simp [hl], by rw [List.getElem?_set_ne (by omega)]; exact h0, by rw [List.getElem?_set_ne (by omega)]; exact h65, ⟨j, by rw [List.getElem?_set_self (by omega)], hj, hs.set (by omega)⟩, hi'⟩


set_option maxHeartbeats 8000000 in
set_option maxRecDepth 100000 in
theorem itnext (S : Nat → Prop) (H : Nat) (root : Value) (L : List (Int × Int)) (w : World) (hroot : ∃ f, Node Iii w S H root L f) (hH : H ≤ 20) (it : Nat) (hit : ¬ S it) (wr0 : World) (c0 : Option Value)
    (v : Value) (l A B : List (Int × Int)) (fs : List (Value × Nat)) (j : Nat) (cells : List Value) (hs : Sta w wr0 it S H root L c0 0 v l A B fs j cells) (hj : j ≤ l.length) (t : Int) (ht : t = (A.length : Int) + (min (j + 1) l.length : Nat)) :
    Calls Tryz.prog 137 #[.pointer (some ⟨it, 0, none⟩)] wr0 fun e w' => e = .returned (.tuple #[]) ∧ At w w' it S H root L c0 t L.length := by
  have HS := Lib.hid hs
  have HJ := Lib.hid hj
  have HT := Lib.hid ht
  clear hs hj ht
  go_enter Tryz.func137, Tryz.ntmps137
  go_wp2_with fail
  go_loopg [2] (fs.length + 1) (fun g s2 wr => (g = 0 ∧ t = L.length ∧ ∃ cells, Dn w wr it c0 cells) ∨ ∃ k v l A B fs j cells u, g = fs.length + 1 ∧ Sta w wr it S H root L c0 k v l A B fs j cells ∧ Up w S k v l j u ∧ t = (A.length : Int) + (u : Nat))
  case atStart => exact .inr ⟨0, v, l, A, B, fs, j, cells, _, rfl, HS.out, ⟨HJ.out, rfl⟩, HT.out⟩
  case round =>
    rcases hrel with ⟨rfl, ht, cells, hd⟩ | ⟨k, v, l, A, B, fs, j, cells, u, rfl, hs, hup, ht⟩
    · have q65 := hd.whole.cell hd.depth
      have HD := Lib.hid hd
      have HT' := Lib.hid ht
      clear hd ht
      go_wp2
      exact bodyPost_end (v := .tuple #[]) (by simp [results, Tryz.results137, go_sem]) rfl ⟨rfl, .inl ⟨HT'.out, cells, HD.out⟩⟩
    · have hdep := hs.ctx.depth
      obtain ⟨f, hnode⟩ := hs.ctx.node hroot
      obtain ⟨a, hv⟩ := node_ptr hnode
      subst hv
      have q65 := hs.whole.cell hs.depth
      have hd0 : (0 : Int) ≤ (fs.length : Int) := by omega
      have hd1 : (fs.length : Int) < 32 := by omega
      have hd2 : fs.length < 32 := by omega
      have hd3 : fs.length < 31 := by omega
      have HS := Lib.hid hs.drew
      have HD := Lib.hid hdep
      have HN := Lib.hid hnode
      have HUP := Lib.hid hup
      have HT' := Lib.hid ht
      clear hs hdep hnode hup ht
      go_upto_region 2 with (fail)
      refine wp_region_still_lit (by kernel_rfl) (by kernel_rfl) ?_
      change wpStill _ _ wr.drew _ _ _
      repeat still_step
      refine wpStill_nil ?_
      change Exit.then _ _ _ _ wr.drew
      clear q65
      generalize wr.drew = w1 at *
      obtain ⟨t1, t2⟩ := HS.out.stk.top
      have q65 := HS.out.whole.cell HS.out.depth
      have f65 := HS.out.whole.frozen 65
      have qv := HS.out.whole.cell t1
      have qj := HS.out.whole.cell t2
      have fj := HS.out.whole.frozen (1 + fs.length * 2 + 1)
      have hwd : IntKind.i64.wrap ((fs.length : Int) - 1) = (fs.length : Int) - 1 := IntWalk.i64_in _ (by omega)
      clear t1 t2
      cases k with
      | zero =>
        change w1.cell? ⟨it, 1 + fs.length * 2, none⟩ = some (.iface 212 (.pointer (some ⟨a, 0, none⟩))) at qv
        obtain ⟨a', b, o, cap, hp, hSa, hSb, h4, hcap, _, h0, h32, _, hR, _⟩ := HN.out
        injection hp with _ hp
        injection hp with hp
        injection hp with hp
        injection hp with hp _ _
        subst hp
        have q4 := HS.out.upd.cell (p := ⟨a, 0, none⟩) (fun e => hit (e ▸ hSa)) h4
        have ta1 := taLL
        obtain ⟨hjl, hu⟩ := HUP.out
        have HU := Lib.hid hu
        have hwl : IntKind.i64.wrap ((l.length : Int) - 1) = (l.length : Int) - 1 := IntWalk.i64_in _ (by omega)
        have hwj : IntKind.i64.wrap ((j : Int) + 1) = (j : Int) + 1 := IntWalk.i64_in _ (by omega)
        clear hR h4 hu
        go_upto_region 6 with (fail)
        refine wp_region_still_lit (by kernel_rfl) (by kernel_rfl) ?_
        change wpStill _ _ w1.drew _ _ _
        repeat still_step
        refine wpStill_nil ?_
        change Exit.then _ _ _ _ w1.drew
        by_cases hlt : (j : Int) < (l.length : Int) - 1
        · have hlt' : decide ((j : Int) < (l.length : Int) - 1) = true := by simp; omega
          go_wp2
          have hs3 := (HS.out.turn hd3 (j + 1)).drew
          have e1 := HT'.out
          have e2 := HU.out
          exact bodyPost_ret (v := .tuple #[]) (by simp [results, Tryz.results137, go_sem]) rfl ⟨rfl, .inr ⟨_, l, A, B, fs, j + 1, _, hs3, by omega, by rw [e1, e2, Nat.min_eq_left (by omega)]⟩⟩
        · have hlt' : decide ((j : Int) < (l.length : Int) - 1) = false := by simp; omega
          go_wp2
          have e1 := HT'.out
          have e2 := HU.out
          rw [Nat.min_eq_right (by omega)] at e2
          rcases HS.out.up hd3 with ⟨f0, hAl, cells', hdn⟩ | ⟨k', v', l', A', B', fs', q', cells', u', hfs, hst, hup', hAl⟩
          · go_roundg 0
            case measure => omega
            case rel => exact .inl ⟨rfl, by rw [e1, e2]; omega, cells', ⟨⟨hdn.upd.by_.os, hdn.upd.by_.tape, hdn.upd.by_.output, hdn.upd.by_.size, hdn.upd.by_.block⟩, hdn.upd.size⟩, hdn.whole, hdn.len, hdn.c0, hdn.depth, hdn.ints⟩
          · go_roundg (fs'.length + 1)
            case measure => omega
            case rel => exact .inr ⟨k', v', l', A', B', fs', q', cells', u', rfl, hst.drew, hup', by rw [e1, e2]; omega⟩
      | succ k =>
        change w1.cell? ⟨it, 1 + fs.length * 2, none⟩ = some (.iface 298 (.pointer (some ⟨a, 0, none⟩))) at qv
        obtain ⟨ks, a', b, o, cap, hb, hl, hj, hu⟩ := HUP.out
        have hp := hb.ptr
        injection hp with _ hp
        injection hp with hp
        injection hp with hp
        injection hp with hp _ _
        subst hp hl
        have h32 := hb.h32
        have q4 := HS.out.upd.cell (p := ⟨a, 0, none⟩) (fun e => hit (e ▸ hb.sa)) hb.cell
        have ta1 := taBL
        have ta2 := taBB
        have HU := Lib.hid hu
        have HB := Lib.hid hb
        have hwl : IntKind.i64.wrap ((ks.length : Int) - 1) = (ks.length : Int) - 1 := IntWalk.i64_in _ (by omega)
        have hwj : IntKind.i64.wrap ((j : Int) + 1) = (j : Int) + 1 := IntWalk.i64_in _ (by omega)
        clear hb hu
        go_upto_region 10 with (fail)
        refine wp_region_still_lit (by kernel_rfl) (by kernel_rfl) ?_
        change wpStill _ _ w1.drew _ _ _
        repeat still_step
        refine wpStill_nil ?_
        change Exit.then _ _ _ _ w1.drew
        by_cases hlt : (j : Int) < (ks.length : Int) - 1
        · have hlt' : decide ((j : Int) < (ks.length : Int) - 1) = true := by simp; omega
          have hs1 := HS.out.drew
          clear HS q65 f65 qv qj fj q4
          generalize w1.drew = w2 at *
          have q65 := hs1.whole.cell hs1.depth
          have qj := hs1.whole.cell hs1.stk.top.2
          have fj := hs1.whole.frozen (1 + fs.length * 2 + 1)
          have HS := Lib.hid hs1
          clear hs1
          go_upto_region 12 with (fail)
          have hs3 := HS.out.turn hd3 (j + 1)
          have hw3 : w2.setCell ⟨it, 1 + fs.length * 2 + 1, none⟩ (.int .i64 ((j + 1 : Nat) : Int)) = w2.setCell ⟨it, 1 + fs.length * 2 + 1, none⟩ (.int .i64 ((j : Int) + 1)) := rfl
          rw [hw3] at hs3
          clear HS q65 qj fj hw3
          generalize w2.setCell ⟨it, 1 + fs.length * 2 + 1, none⟩ (.int .i64 ((j : Int) + 1)) = w3 at *
          obtain ⟨c, hc⟩ : ∃ c, ks[j + 1]? = some c := ⟨_, List.getElem?_eq_getElem (by omega)⟩
          obtain ⟨ca, hca⟩ := node_ptr (HB.out.kids c (List.mem_of_getElem? hc))
          have q65 := hs3.whole.cell hs3.depth
          have qj : w3.cell? ⟨it, 1 + fs.length * 2 + 1, none⟩ = some (.int .i64 ((j : Int) + 1)) := hs3.whole.cell hs3.stk.top.2
          have q4 := hs3.upd.cell (p := ⟨a, 0, none⟩) (fun e => hit (e ▸ HB.out.sa)) HB.out.cell
          have q5 : w3.cell? ⟨b, o + (j + 1) * 2 + 1, none⟩ = some (.iface (ty k) (.pointer (some ⟨ca, 0, none⟩))) := by
            rw [← hca, Nat.add_assoc]; exact hs3.upd.cell (p := ⟨b, o + ((j + 1) * 2 + 1), none⟩) (fun e => hit (e ▸ HB.out.sb)) (HB.out.row _ _ (flat_get pay_len hc (j := 1) (by decide)))
          obtain ⟨xn, qn⟩ : ∃ x, w3.cell? ⟨it, 1 + (fs.length + 1) * 2, none⟩ = some x := ⟨_, hs3.whole.cell (j := 1 + (fs.length + 1) * 2) (List.getElem?_eq_getElem (by rw [hs3.len]; omega))⟩
          have fn := hs3.whole.frozen (1 + (fs.length + 1) * 2)
          have HS := Lib.hid hs3
          have HC := Lib.hid hc
          have HCA := Lib.hid hca
          clear hs3 hc hca
          have hn0 : (j : Int) + 1 < (ks.length : Int) := by omega
          have hn1 : j + 1 < ks.length := by omega
          have hn2 : (0 : Int) ≤ (j : Int) + 1 := by omega
          have hw1 : IntKind.i64.wrap ((fs.length : Int) + 1) = (fs.length : Int) + 1 := IntWalk.i64_in _ (by omega)
          have hd4 : (fs.length : Int) + 1 < 32 := by omega
          have hd5 : fs.length + 1 < 32 := by omega
          have hd6 : (0 : Int) ≤ (fs.length : Int) + 1 := by omega
          refine wp_region_still_tail 21 (by kernel_rfl) (by kernel_rfl) ?_
          change wpStill _ _ w3.drew _ _ _
          simp only [List.take_succ_cons, List.take_zero, List.drop_succ_cons, List.drop_zero]
          repeat still_step
          refine wpStill_nil ?_
          clear q65 qj q4 q5
          go_upto_region 13 with (fail)
          obtain ⟨p1, p2, p3, ⟨j4, p4⟩, p5⟩ := put_facts (u := .iface (ty k) (.pointer (some ⟨ca, 0, none⟩))) HS.out.len HS.out.c0 HS.out.depth HS.out.stk HS.out.ints hd3
          obtain ⟨hW4, hU4⟩ := whole_set HS.out.whole (.iface (ty k) (.pointer (some ⟨ca, 0, none⟩))) (i := 1 + (fs.length + 1) * 2) (by rw [HS.out.len]; omega)
          have hU4' := updDrew (HS.out.upd.trans hU4)
          have hW4' : Whole (w3.setCell ⟨it, 1 + (fs.length + 1) * 2, none⟩ (.iface (ty k) (.pointer (some ⟨ca, 0, none⟩)))).drew it _ 210 := hW4
          clear hW4 hU4 qn fn
          generalize (w3.setCell ⟨it, 1 + (fs.length + 1) * 2, none⟩ (.iface (ty k) (.pointer (some ⟨ca, 0, none⟩)))).drew = w4 at *
          have q65 := hW4'.cell p3
          have f65 := hW4'.frozen 65
          have hctx := HS.out.ctx
          have P := Lib.hid (Sta.down (q := j + 1) (j := j4) hctx HB.out HC.out hd3 hU4' hW4' p1 p2 (by rw [HCA.out]; exact p4) p5)
          clear p1 p2 p3 p4 p5 hW4' hU4' hctx
          go_upto_region 14 with (fail)
          have hdn := P.out
          clear P q65 f65
          generalize w4.setCell ⟨it, 65, none⟩ (.int .i64 ((fs.length : Int) + 1)) = w5 at *
          have HF := Lib.hid (itfirst S H root L w hroot hH it hit w5 c0 k c.v c.l _ _ _ j4 _ hdn)
          clear hdn
          go_wp2_with (go_at_call 134; refine HF.out.mono ?_; rintro e w6 ⟨rfl, v', l', B', fs', cells', hst⟩)
          have e1 := HT'.out
          have e2 := HU.out
          obtain ⟨f', hn'⟩ := hst.ctx.node hroot
          have hl' : 0 < l'.length := List.length_pos_iff.2 hn'.ne
          exact bodyPost_ret (v := .tuple #[]) (by simp [results, Tryz.results137, go_sem]) rfl ⟨rfl, .inr ⟨v', l', _, B', fs', 0, cells', hst, hl', by rw [e1, e2]; simp⟩⟩
        · have hlt' : decide ((j : Int) < (ks.length : Int) - 1) = false := by simp; omega
          go_wp2
          have e1 := HT'.out
          have e2 := HU.out
          rw [List.take_of_length_le (by omega)] at e2
          rcases HS.out.up hd3 with ⟨f0, hAl, cells', hdn⟩ | ⟨k', v', l', A', B', fs', q', cells', u', hfs, hst, hup', hAl⟩
          · go_roundg 0
            case measure => omega
            case rel => exact .inl ⟨rfl, by rw [e1, e2]; omega, cells', ⟨⟨hdn.upd.by_.os, hdn.upd.by_.tape, hdn.upd.by_.output, hdn.upd.by_.size, hdn.upd.by_.block⟩, hdn.upd.size⟩, hdn.whole, hdn.len, hdn.c0, hdn.depth, hdn.ints⟩
          · go_roundg (fs'.length + 1)
            case measure => omega
            case rel => exact .inr ⟨k', v', l', A', B', fs', q', cells', u', rfl, hst.drew, hup', by rw [e1, e2]; omega⟩
end Nii
end Go.Proofs.YtfejflhgaphilaaGreatDoor

namespace Go.Proofs.YtfejflhgaphilaaGreatDoor
open Go.RowKit Go.Sort Lst
namespace Nii

/-- How much of a node's content lies ahead of the index's own entry. -/
def Fore (w : World) (S : Nat → Prop) : Nat → Value → List (Int × Int) → Nat → Nat → Prop
  | 0, _, l, j, u => j < l.length ∧ u = j
  | k + 1, v, l, j, u => ∃ ks a b o cap, BranchAt Iii w S k v ks a b o cap ∧ l = (ks.map (·.l)).flatten ∧ j < ks.length ∧ u = ((ks.take j).map (·.l)).flatten.length

/-- The depth is lowered: nothing of the node lies ahead. -/
theorem Sta.upF {w w2 : World} {it : Nat} {S : Nat → Prop} {H : Nat} {root : Value} {L : List (Int × Int)} {c0 : Option Value} {h : Nat} {v : Value} {l A B : List (Int × Int)} {fs : List (Value × Nat)} {j : Nat} {cells : List Value}
    (hs : Sta w w2 it S H root L c0 h v l A B fs j cells) (hd : fs.length < 31) :
    (fs = [] ∧ A.length = 0 ∧ ∃ cells', Dn w (w2.setCell ⟨it, 65, none⟩ (.int .i64 ((fs.length : Int) - 1))) it c0 cells') ∨
    ∃ k v' l' A' B' fs' q cells' u, fs.length = fs'.length + 1 ∧ Sta w (w2.setCell ⟨it, 65, none⟩ (.int .i64 ((fs.length : Int) - 1))) it S H root L c0 k v' l' A' B' fs' q cells' ∧ Fore w S k v' l' q u ∧ A.length = A'.length + u := by
  obtain ⟨h1, h2⟩ := whole_set hs.whole (.int .i64 ((fs.length : Int) - 1)) (i := 65) (by rw [hs.len]; omega)
  have hl : (cells.set 65 (.int .i64 ((fs.length : Int) - 1))).length = 66 := by simp [hs.len]
  have h0 : (cells.set 65 (.int .i64 ((fs.length : Int) - 1)))[0]? = c0 := by rw [List.getElem?_set_ne (by omega)]; exact hs.c0
  have h65 : (cells.set 65 (.int .i64 ((fs.length : Int) - 1)))[65]? = some (.int .i64 ((fs.length : Int) - 1)) := by rw [List.getElem?_set_self (by rw [hs.len]; omega)]
  have hi : ∀ i, i < 32 → ∃ n : Nat, (cells.set 65 (.int .i64 ((fs.length : Int) - 1)))[1 + i * 2 + 1]? = some (.int .i64 (n : Int)) := fun i hin => by rw [List.getElem?_set_ne (by omega)]; exact hs.ints i hin
  have hc := hs.ctx
  have hst := hs.stk.set (v := .int .i64 ((fs.length : Int) - 1)) (i := 65) (by omega)
  have hu := hs.upd.trans h2
  generalize cells.set 65 (.int .i64 ((fs.length : Int) - 1)) = cells' at *
  generalize w2.setCell ⟨it, 65, none⟩ (.int .i64 ((fs.length : Int) - 1)) = w3 at *
  clear hs h2
  cases hc with
  | top => exact .inl ⟨rfl, by simp, cells', hu, h1, hl, h0, by simpa using h65, hi⟩
  | @down _ a b o cap q pv A' B' fs' ks c hp hb hq =>
    refine .inr ⟨_, pv, _, A', B', fs', q, cells', ((ks.take q).map (·.l)).flatten.length, rfl, ⟨hu, h1, hl, h0, ?_, hp, hst.2.2, hi⟩, ⟨ks, a, b, o, cap, hb, rfl, (List.getElem?_eq_some_iff.1 hq).1, rfl⟩, ?_⟩
    · rw [h65]; simp
    · simp

set_option maxHeartbeats 8000000 in
set_option maxRecDepth 100000 in
theorem itprev (S : Nat → Prop) (H : Nat) (root : Value) (L : List (Int × Int)) (w : World) (hroot : ∃ f, Node Iii w S H root L f) (hH : H ≤ 20) (it : Nat) (hit : ¬ S it) (wr0 : World) (c0 : Option Value)
    (v : Value) (l A B : List (Int × Int)) (fs : List (Value × Nat)) (j : Nat) (cells : List Value) (hs : Sta w wr0 it S H root L c0 0 v l A B fs j cells) (hj : j < l.length) (t : Int) (ht : t = (A.length : Int) + (j : Nat) - 1) :
    Calls Tryz.prog 138 #[.pointer (some ⟨it, 0, none⟩)] wr0 fun e w' => e = .returned (.tuple #[]) ∧ At w w' it S H root L c0 t (-1) := by
  have HS := Lib.hid hs
  have HJ := Lib.hid hj
  have HT := Lib.hid ht
  clear hs hj ht
  go_enter Tryz.func138, Tryz.ntmps138
  go_wp2_with fail
  go_loopg [2] (fs.length + 1) (fun g s2 wr => (g = 0 ∧ t = -1 ∧ ∃ cells, Dn w wr it c0 cells) ∨ ∃ k v l A B fs j cells u, g = fs.length + 1 ∧ Sta w wr it S H root L c0 k v l A B fs j cells ∧ Fore w S k v l j u ∧ t = (A.length : Int) + (u : Nat) - 1)
  case atStart => exact .inr ⟨0, v, l, A, B, fs, j, cells, _, rfl, HS.out, ⟨HJ.out, rfl⟩, HT.out⟩
  case round =>
    rcases hrel with ⟨rfl, ht, cells, hd⟩ | ⟨k, v, l, A, B, fs, j, cells, u, rfl, hs, hup, ht⟩
    · have q65 := hd.whole.cell hd.depth
      have HD := Lib.hid hd
      have HT' := Lib.hid ht
      clear hd ht
      go_wp2
      exact bodyPost_end (v := .tuple #[]) (by simp [results, Tryz.results138, go_sem]) rfl ⟨rfl, .inl ⟨HT'.out, cells, HD.out⟩⟩
    · have hdep := hs.ctx.depth
      obtain ⟨f, hnode⟩ := hs.ctx.node hroot
      obtain ⟨a, hv⟩ := node_ptr hnode
      subst hv
      have q65 := hs.whole.cell hs.depth
      have hd0 : (0 : Int) ≤ (fs.length : Int) := by omega
      have hd1 : (fs.length : Int) < 32 := by omega
      have hd2 : fs.length < 32 := by omega
      have hd3 : fs.length < 31 := by omega
      have HS := Lib.hid hs.drew
      have HD := Lib.hid hdep
      have HN := Lib.hid hnode
      have HUP := Lib.hid hup
      have HT' := Lib.hid ht
      clear hs hdep hnode hup ht
      go_upto_region 2 with (fail)
      refine wp_region_still_lit (by kernel_rfl) (by kernel_rfl) ?_
      change wpStill _ _ wr.drew _ _ _
      repeat still_step
      refine wpStill_nil ?_
      change Exit.then _ _ _ _ wr.drew
      clear q65
      generalize wr.drew = w1 at *
      obtain ⟨t1, t2⟩ := HS.out.stk.top
      have q65 := HS.out.whole.cell HS.out.depth
      have f65 := HS.out.whole.frozen 65
      have qv := HS.out.whole.cell t1
      have qj := HS.out.whole.cell t2
      have fj := HS.out.whole.frozen (1 + fs.length * 2 + 1)
      have hwd : IntKind.i64.wrap ((fs.length : Int) - 1) = (fs.length : Int) - 1 := IntWalk.i64_in _ (by omega)
      clear t1 t2
      cases k with
      | zero =>
        change w1.cell? ⟨it, 1 + fs.length * 2, none⟩ = some (.iface 212 (.pointer (some ⟨a, 0, none⟩))) at qv
        obtain ⟨a', b, o, cap, hp, hSa, hSb, h4, hcap, _, h0, h32, _, hR, _⟩ := HN.out
        injection hp with _ hp
        injection hp with hp
        injection hp with hp
        injection hp with hp _ _
        subst hp
        have q4 := HS.out.upd.cell (p := ⟨a, 0, none⟩) (fun e => hit (e ▸ hSa)) h4
        have ta1 := taLL
        obtain ⟨hjl, hu⟩ := HUP.out
        have HU := Lib.hid hu
        clear hR h4 hu
        by_cases hlt : (0 : Int) < (j : Int)
        · obtain ⟨m, rfl⟩ : ∃ m, j = m + 1 := ⟨j - 1, by omega⟩
          have hwj : IntKind.i64.wrap (((m : Int) + 1) - 1) = (m : Int) := by rw [IntWalk.i64_in _ (by omega)]; omega
          have qj' : w1.cell? ⟨it, 1 + fs.length * 2 + 1, none⟩ = some (.int .i64 ((m : Int) + 1)) := qj
          have hlt' : (0 : Int) < (m : Int) + 1 := by omega
          clear qj hlt
          go_wp2
          have hs3 := HS.out.turn hd3 m
          have e1 := HT'.out
          have e2 := HU.out
          exact bodyPost_ret (v := .tuple #[]) (by simp [results, Tryz.results138, go_sem]) rfl ⟨rfl, .inr ⟨_, l, A, B, fs, m, _, hs3, by omega, by rw [e1, e2]; omega⟩⟩
        · obtain rfl : j = 0 := by omega
          have qj' : w1.cell? ⟨it, 1 + fs.length * 2 + 1, none⟩ = some (.int .i64 0) := qj
          clear qj hlt
          go_wp2
          have e1 := HT'.out
          have e2 := HU.out
          rcases HS.out.upF hd3 with ⟨f0, hAl, cells', hdn⟩ | ⟨k', v', l', A', B', fs', q', cells', u', hfs, hst, hup', hAl⟩
          · go_roundg 0
            case measure => omega
            case rel => exact .inl ⟨rfl, by rw [e1, e2]; omega, cells', hdn⟩
          · go_roundg (fs'.length + 1)
            case measure => omega
            case rel => exact .inr ⟨k', v', l', A', B', fs', q', cells', u', rfl, hst, hup', by rw [e1, e2]; omega⟩
      | succ k =>
        change w1.cell? ⟨it, 1 + fs.length * 2, none⟩ = some (.iface 298 (.pointer (some ⟨a, 0, none⟩))) at qv
        obtain ⟨ks, a', b, o, cap, hb, hl, hj, hu⟩ := HUP.out
        have hp := hb.ptr
        injection hp with _ hp
        injection hp with hp
        injection hp with hp
        injection hp with hp _ _
        subst hp hl
        have h32 := hb.h32
        have q4 := HS.out.upd.cell (p := ⟨a, 0, none⟩) (fun e => hit (e ▸ hb.sa)) hb.cell
        have ta1 := taBL
        have ta2 := taBB
        have HU := Lib.hid hu
        have HB := Lib.hid hb
        clear hb hu
        by_cases hlt : (0 : Int) < (j : Int)
        · obtain ⟨m, rfl⟩ : ∃ m, j = m + 1 := ⟨j - 1, by omega⟩
          have hwj : IntKind.i64.wrap (((m : Int) + 1) - 1) = (m : Int) := by rw [IntWalk.i64_in _ (by omega)]; omega
          have qj' : w1.cell? ⟨it, 1 + fs.length * 2 + 1, none⟩ = some (.int .i64 ((m : Int) + 1)) := qj
          have hlt' : (0 : Int) < (m : Int) + 1 := by omega
          clear qj hlt
          go_upto_region 12 with (fail)
          have hs3 := HS.out.turn hd3 m
          clear HS q65 f65 qv qj' fj q4
          generalize w1.setCell ⟨it, 1 + fs.length * 2 + 1, none⟩ (.int .i64 (m : Int)) = w3 at *
          obtain ⟨c, hc⟩ : ∃ c, ks[m]? = some c := ⟨_, List.getElem?_eq_getElem (by omega)⟩
          obtain ⟨ca, hca⟩ := node_ptr (HB.out.kids c (List.mem_of_getElem? hc))
          have q65 := hs3.whole.cell hs3.depth
          have qj : w3.cell? ⟨it, 1 + fs.length * 2 + 1, none⟩ = some (.int .i64 (m : Int)) := hs3.whole.cell hs3.stk.top.2
          have q4 := hs3.upd.cell (p := ⟨a, 0, none⟩) (fun e => hit (e ▸ HB.out.sa)) HB.out.cell
          have q5 : w3.cell? ⟨b, o + m * 2 + 1, none⟩ = some (.iface (ty k) (.pointer (some ⟨ca, 0, none⟩))) := by
            rw [← hca, Nat.add_assoc]; exact hs3.upd.cell (p := ⟨b, o + (m * 2 + 1), none⟩) (fun e => hit (e ▸ HB.out.sb)) (HB.out.row _ _ (flat_get pay_len hc (j := 1) (by decide)))
          obtain ⟨xn, qn⟩ : ∃ x, w3.cell? ⟨it, 1 + (fs.length + 1) * 2, none⟩ = some x := ⟨_, hs3.whole.cell (j := 1 + (fs.length + 1) * 2) (List.getElem?_eq_getElem (by rw [hs3.len]; omega))⟩
          have fn := hs3.whole.frozen (1 + (fs.length + 1) * 2)
          have HS := Lib.hid hs3
          have HC := Lib.hid hc
          have HCA := Lib.hid hca
          clear hs3 hc hca
          have hn0 : (m : Int) < (ks.length : Int) := by omega
          have hn1 : m < ks.length := by omega
          have hw1 : IntKind.i64.wrap ((fs.length : Int) + 1) = (fs.length : Int) + 1 := IntWalk.i64_in _ (by omega)
          have hd4 : (fs.length : Int) + 1 < 32 := by omega
          have hd5 : fs.length + 1 < 32 := by omega
          have hd6 : (0 : Int) ≤ (fs.length : Int) + 1 := by omega
          refine wp_region_still_tail 21 (by kernel_rfl) (by kernel_rfl) ?_
          change wpStill _ _ w3.drew _ _ _
          simp only [List.take_succ_cons, List.take_zero, List.drop_succ_cons, List.drop_zero]
          repeat still_step
          refine wpStill_nil ?_
          clear q65 qj q4 q5
          go_upto_region 13 with (fail)
          obtain ⟨p1, p2, p3, ⟨j4, p4⟩, p5⟩ := put_facts (u := .iface (ty k) (.pointer (some ⟨ca, 0, none⟩))) HS.out.len HS.out.c0 HS.out.depth HS.out.stk HS.out.ints hd3
          obtain ⟨hW4, hU4⟩ := whole_set HS.out.whole (.iface (ty k) (.pointer (some ⟨ca, 0, none⟩))) (i := 1 + (fs.length + 1) * 2) (by rw [HS.out.len]; omega)
          have hU4' := updDrew (HS.out.upd.trans hU4)
          have hW4' : Whole (w3.setCell ⟨it, 1 + (fs.length + 1) * 2, none⟩ (.iface (ty k) (.pointer (some ⟨ca, 0, none⟩)))).drew it _ 210 := hW4
          clear hW4 hU4 qn fn
          generalize (w3.setCell ⟨it, 1 + (fs.length + 1) * 2, none⟩ (.iface (ty k) (.pointer (some ⟨ca, 0, none⟩)))).drew = w4 at *
          have q65 := hW4'.cell p3
          have f65 := hW4'.frozen 65
          have hctx := HS.out.ctx
          have P := Lib.hid (Sta.down (q := m) (j := j4) hctx HB.out HC.out hd3 hU4' hW4' p1 p2 (by rw [HCA.out]; exact p4) p5)
          clear p1 p2 p3 p4 p5 hW4' hU4' hctx
          go_upto_region 14 with (fail)
          have hdn := P.out
          clear P q65 f65
          generalize w4.setCell ⟨it, 65, none⟩ (.int .i64 ((fs.length : Int) + 1)) = w5 at *
          have hsp := congrArg List.length hdn.ctx.split
          have HSP := Lib.hid hsp
          have HF := Lib.hid (itlast S H root L w hroot hH it hit w5 c0 k c.v c.l _ _ _ j4 _ hdn)
          clear hdn hsp
          go_wp2_with (go_at_call 135; refine HF.out.mono ?_; rintro e w6 ⟨rfl, v', l', A', fs', cells', m', hm', hst⟩)
          have e1 := HT'.out
          have e2 := HU.out
          have e3 := HSP.out
          have e4 := congrArg List.length hst.ctx.split
          rw [List.take_succ_eq_append_getElem hn1, (List.getElem?_eq_some_iff.1 HC.out).2] at e2
          simp only [List.length_append, List.map_append, List.map_cons, List.map_nil, List.flatten_append, List.flatten_cons, List.flatten_nil, List.append_nil] at e2 e3 e4
          exact bodyPost_ret (v := .tuple #[]) (by simp [results, Tryz.results138, go_sem]) rfl ⟨rfl, .inr ⟨v', l', A', _, fs', m', cells', hst, by omega, by rw [e1, e2]; omega⟩⟩
        · obtain rfl : j = 0 := by omega
          have qj' : w1.cell? ⟨it, 1 + fs.length * 2 + 1, none⟩ = some (.int .i64 0) := qj
          clear qj hlt
          go_wp2
          have e1 := HT'.out
          have e2 := HU.out
          simp only [List.take_zero, List.map_nil, List.flatten_nil, List.length_nil] at e2
          rcases HS.out.upF hd3 with ⟨f0, hAl, cells', hdn⟩ | ⟨k', v', l', A', B', fs', q', cells', u', hfs, hst, hup', hAl⟩
          · go_roundg 0
            case measure => omega
            case rel => exact .inl ⟨rfl, by rw [e1, e2]; omega, cells', hdn⟩
          · go_roundg (fs'.length + 1)
            case measure => omega
            case rel => exact .inr ⟨k', v', l', A', B', fs', q', cells', u', rfl, hst, hup', by rw [e1, e2]; omega⟩
end Nii
end Go.Proofs.YtfejflhgaphilaaGreatDoor

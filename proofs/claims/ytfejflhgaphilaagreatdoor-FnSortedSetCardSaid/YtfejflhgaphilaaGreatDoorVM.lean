/-
  THE WALK of the specification's place: where a key stands among pairs in order.
  THE WALK of the specification's put: a pair among pairs in order, in a row that is owned.
  THE WALK of the specification's pairs put one behind the other.
-/
import Derived.Test.YtfejflhgaphilaaGreatDoorVL
import Derived.Test.YtfejflhgaphilaaGreatDoorVK
import Derived.Deep.RegionHeld3
set_option linter.all false
set_option linter.unusedVariables false
set_option linter.unusedSimpArgs false
set_option linter.unusedSectionVars false
namespace Go.Proofs.YtfejflhgaphilaaGreatDoor
open Go.RowKit Go.Sort Lst

theorem below_drewN {B : Nat} {a w : World} (h : Below B a w) (n : Nat) : Below B a (w.drewN n) := ⟨h.os, h.tape, h.output, h.size, h.block⟩

set_option maxHeartbeats 4000000 in
set_option maxRecDepth 100000 in
theorem place_any (txt : Bool) (kk nn : Int) (L : List Pr) (k : Pr) (sl : Value) (w : World) (hO : OrdOK kk nn) (hs : Srt (cmpP txt kk nn) L) (hL : ∀ p ∈ L, I64 p.key) (hk : I64 k.key) (hlen : L.length ≤ 1000000)
    (hR : RowV w sl L.length (prs L)) :
    Calls Tryz.prog 34 #[ordV kk nn, .bool txt, sl, k.v] w fun e w' => e = .returned (.tuple #[.int .i64 (pos (fP txt kk nn k) L), .bool (has (fP txt kk nn k) L)]) ∧ Below w.heap.size w w' := by
  have hB := gNew2 w (.cells #[.int .u8 kk, .int .i64 nn] 23) (.cells #[.int .i64 k.key, .string k.text, .int .i64 k.val] 49)
  obtain ⟨a, cap, rfl, hcap, hrow⟩ := hR
  have CALL : Hid (∀ (i : Nat) (p : Pr) (W : World), L[i]? = some p → Calls Tryz.prog 73 #[ordV kk nn, .bool txt, p.v, k.v] W fun e w' => e = .returned (.int .i64 (cmpP txt kk nn p k)) ∧ Below W.heap.size W w') :=
    fun i p W hp => compare_any txt kk nn p k W hO (hL p (List.mem_of_getElem? hp)) hk
  have HROW := Lib.hid hrow
  have HPL := Lib.hid (pos_le (fP txt kk nn k) L)
  have HRIGHT : Hid (∀ (m : Nat) (p : Pr), L[m]? = some p → cmpP txt kk nn p k = -1 → m < pos (fP txt kk nn k) L) := fun m p hp h => pos_right hs hp h
  have HLEFT : Hid (∀ (m : Nat) (p : Pr), L[m]? = some p → cmpP txt kk nn p k ≠ -1 → pos (fP txt kk nn k) L ≤ m) := fun m p hp h => pos_left hp h
  have HHAS : Hid (∀ p, L[pos (fP txt kk nn k) L]? = some p → has (fP txt kk nn k) L = decide (cmpP txt kk nn p k = 0)) := fun p hp => has_of hp
  have HEND : Hid (pos (fP txt kk nn k) L = L.length → has (fP txt kk nn k) L = false) := has_end
  clear hs hL hk hO hrow
  generalize hPOS : pos (fP txt kk nn k) L = P at *
  generalize hHAS : has (fP txt kk nn k) L = HS at *
  clear hPOS hHAS
  obtain ⟨kx, kt, kv⟩ := k
  simp only at hB CALL HRIGHT HLEFT HHAS
  have q0 : ((w.alloc (.cells #[.int .u8 kk, .int .i64 nn] 23)).alloc (.cells #[.int .i64 kx, .string kt, .int .i64 kv] 49)).cell? ⟨w.heap.size, 0, none⟩ = some (.int .u8 kk) := by go_simp
  have q1 : ((w.alloc (.cells #[.int .u8 kk, .int .i64 nn] 23)).alloc (.cells #[.int .i64 kx, .string kt, .int .i64 kv] 49)).cell? ⟨w.heap.size, 1, none⟩ = some (.int .i64 nn) := by go_simp
  have q2 : ((w.alloc (.cells #[.int .u8 kk, .int .i64 nn] 23)).alloc (.cells #[.int .i64 kx, .string kt, .int .i64 kv] 49)).cell? ⟨w.heap.size + 1, 0, none⟩ = some (.int .i64 kx) := by go_simp
  have q3 : ((w.alloc (.cells #[.int .u8 kk, .int .i64 nn] 23)).alloc (.cells #[.int .i64 kx, .string kt, .int .i64 kv] 49)).cell? ⟨w.heap.size + 1, 1, none⟩ = some (.string kt) := by go_simp
  have q4 : ((w.alloc (.cells #[.int .u8 kk, .int .i64 nn] 23)).alloc (.cells #[.int .i64 kx, .string kt, .int .i64 kv] 49)).cell? ⟨w.heap.size + 1, 2, none⟩ = some (.int .i64 kv) := by go_simp
  have QS : Hid (((w.alloc (.cells #[.int .u8 kk, .int .i64 nn] 23)).alloc (.cells #[.int .i64 kx, .string kt, .int .i64 kv] 49)).cell? ⟨w.heap.size, 0, none⟩ = some (.int .u8 kk) ∧
    ((w.alloc (.cells #[.int .u8 kk, .int .i64 nn] 23)).alloc (.cells #[.int .i64 kx, .string kt, .int .i64 kv] 49)).cell? ⟨w.heap.size, 1, none⟩ = some (.int .i64 nn) ∧
    ((w.alloc (.cells #[.int .u8 kk, .int .i64 nn] 23)).alloc (.cells #[.int .i64 kx, .string kt, .int .i64 kv] 49)).cell? ⟨w.heap.size + 1, 0, none⟩ = some (.int .i64 kx) ∧
    ((w.alloc (.cells #[.int .u8 kk, .int .i64 nn] 23)).alloc (.cells #[.int .i64 kx, .string kt, .int .i64 kv] 49)).cell? ⟨w.heap.size + 1, 1, none⟩ = some (.string kt) ∧
    ((w.alloc (.cells #[.int .u8 kk, .int .i64 nn] 23)).alloc (.cells #[.int .i64 kx, .string kt, .int .i64 kv] 49)).cell? ⟨w.heap.size + 1, 2, none⟩ = some (.int .i64 kv)) := ⟨q0, q1, q2, q3, q4⟩
  have HB := Lib.hid hB
  clear hB q0 q1 q2 q3 q4
  go_enter Tryz.func34, Tryz.ntmps34
  go_upto_region 2 with (fail)
  generalize ((w.alloc (.cells #[.int .u8 kk, .int .i64 nn] 23)).alloc (.cells #[.int .i64 kx, .string kt, .int .i64 kv] 49)) = wa at *
  go_loopg [10, 11] L.length (fun g s10 s11 wr => ∃ (lo hi : Nat), s10 = .int .i64 lo ∧ s11 = .int .i64 hi ∧ lo ≤ P ∧ P ≤ hi ∧ hi ≤ L.length ∧ hi - lo ≤ g ∧ Below wa.heap.size wa wr)
  case atStart => exact ⟨0, L.length, rfl, rfl, Nat.zero_le _, HPL.out, Nat.le_refl _, by omega, gRefl _⟩
  case round =>
    obtain ⟨lo, hi, rfl, rfl, h1, h2, h3, hg, hB⟩ := hrel
    obtain ⟨q0, q1, q2, q3, q4⟩ := QS.out
    have r0 := gCell hB q0
    have r1 := gCell hB q1
    have r2 := gCell hB q2
    have r3 := gCell hB q3
    have r4 := gCell hB q4
    have hlt' : lo < hi ∨ lo = hi := by omega
    rcases hlt' with hlt | rfl
    · obtain ⟨b, o, rfl, hR⟩ := HROW.out (by omega)
      obtain ⟨m, hm⟩ : ∃ m : Nat, m = (lo + hi) / 2 := ⟨_, rfl⟩
      have hmi : ((lo : Int) + (hi : Int)) / 2 = (m : Int) := by omega
      have hm1 : m < L.length := by omega
      have hm2 : (m : Int) < (L.length : Int) := by omega
      have HM : Hid (lo ≤ m ∧ m < hi) := by show lo ≤ m ∧ m < hi; omega
      clear hm
      obtain ⟨p, hp⟩ : ∃ p, L[m]? = some p := ⟨_, List.getElem?_eq_getElem hm1⟩
      obtain ⟨c0, c1, c2⟩ := hR.pr hp
      have HC := Lib.hid (CALL.out _ p wr.drew hp)
      have HRI := Lib.hid (HRIGHT.out _ p hp)
      have HLE := Lib.hid (HLEFT.out _ p hp)
      have s0 := gCell hB (gCell HB.out c0)
      have s1 := gCell hB (gCell HB.out c1)
      have s2 := gCell hB (gCell HB.out c2)
      clear q0 q1 q2 q3 q4 c0 c1 c2 hR
      have HBr := Lib.hid hB
      clear hB
      have hz := (ordP txt kk nn).range p ⟨kx, kt, kv⟩
      generalize cmpP txt kk nn p ⟨kx, kt, kv⟩ = z at *
      have hz' : z = -1 ∨ (0 ≤ z ∧ ¬ z < 0) := by omega
      clear hz
      rcases hz' with rfl | ⟨hz0, hz1⟩
      · have hP := HRI.out rfl
        have HPP := Lib.hid hP
        clear hP
        go_upto_region 4 with (fail)
        rw [hmi]
        clear hmi
        refine wp_region_still_tail 7 (by kernel_rfl) (by kernel_rfl) ?_
        simp only [List.take_succ_cons, List.take_zero, List.drop_succ_cons, List.drop_zero]
        change wpStill _ _ wr.drew _ _ _
        repeat still_step
        refine wpStill_nil ?_
        go_wp2_with (go_at_call 73; refine HC.out.mono ?_; rintro e w5 ⟨rfl, hB5⟩)
        go_roundg (hi - (m + 1))
        case measure => have := HM.out; omega
        case rel => exact ⟨m + 1, hi, by simp, rfl, HPP.out, h2, h3, by omega, gTrans (below_drew HBr.out) hB5⟩
      · have hP := HLE.out (by omega)
        have HPP := Lib.hid hP
        clear hP
        go_upto_region 4 with (fail)
        rw [hmi]
        clear hmi
        refine wp_region_still_tail 7 (by kernel_rfl) (by kernel_rfl) ?_
        simp only [List.take_succ_cons, List.take_zero, List.drop_succ_cons, List.drop_zero]
        change wpStill _ _ wr.drew _ _ _
        repeat still_step
        refine wpStill_nil ?_
        go_wp2_with (go_at_call 73; refine HC.out.mono ?_; rintro e w5 ⟨rfl, hB5⟩)
        go_roundg (m - lo)
        case measure => have := HM.out; omega
        case rel => exact ⟨lo, m, rfl, rfl, h1, HPP.out, by omega, by omega, gTrans (below_drew HBr.out) hB5⟩
    · obtain rfl : lo = P := by omega
      have hend : lo = L.length ∨ lo < L.length := by omega
      have HBW := Lib.hid (gTrans HB.out hB)
      clear hg h1 h2
      rcases hend with hE | hlt
      · have hH := HEND.out hE
        subst hH
        have hnl : ¬ ((lo : Int) < (L.length : Int)) := by omega
        have hdl : decide ((lo : Int) < (L.length : Int)) = false := by simp [hnl]
        clear hB q0 q1 q2 q3 q4 hE HEND HHAS HRIGHT HLEFT
        go_upto_region 7 with (fail)
        go_quiet (fail)
        go_wp2
        exact bodyPost_ret (v := .tuple #[.int .i64 lo, .bool false]) (by simp [results, Tryz.results34, go_sem]) rfl ⟨rfl, below_drewN HBW.out _⟩
      · obtain ⟨b, o, rfl, hR⟩ := HROW.out (by omega)
        obtain ⟨p, hp⟩ : ∃ p, L[lo]? = some p := ⟨_, List.getElem?_eq_getElem hlt⟩
        obtain ⟨c0, c1, c2⟩ := hR.pr hp
        have HC := fun d os => Calls.regrown_of (CALL.out _ p (grow (redrawn wr d) os) hp)
        have hH := HHAS.out p hp
        have s0 := gCell hB (gCell HB.out c0)
        have s1 := gCell hB (gCell HB.out c1)
        have s2 := gCell hB (gCell HB.out c2)
        have r0 := fun d os => cell_regrown r0 d os
        have r1 := fun d os => cell_regrown r1 d os
        have r2 := fun d os => cell_regrown r2 d os
        have r3 := fun d os => cell_regrown r3 d os
        have r4 := fun d os => cell_regrown r4 d os
        have s0 := fun d os => cell_regrown s0 d os
        have s1 := fun d os => cell_regrown s1 d os
        have s2 := fun d os => cell_regrown s2 d os
        have hli : (lo : Int) < (L.length : Int) := by omega
        have hl0 : ¬ (lo : Int) < 0 := by omega
        have hll : lo < L.length := hlt
        clear hB q0 q1 q2 q3 q4 c0 c1 c2 hR HRIGHT HLEFT HHAS HEND CALL
        generalize cmpP txt kk nn p ⟨kx, kt, kv⟩ = z at *
        have hz' : (z = 0 ∧ HS = true) ∨ ((z == 0) = false ∧ HS = false) := by
          by_cases h : z = 0
          · exact .inl ⟨h, by rw [hH]; simp [h]⟩
          · exact .inr ⟨by simp [h], by rw [hH]; simp [h]⟩
        clear hH
        rcases hz' with ⟨hz0, hz1⟩ | ⟨hz0, hz1⟩
        · subst hz0
          subst hz1
          go_upto_region 7 with (fail)
          refine wp_region_quiet_below (by kernel_rfl) (by kernel_rfl) ?_
          repeat (go_big_quiet_step ((go_at_call 73; exact HC _ _)))
          refine wpQuiet_nil ?_
          rintro _ ⟨⟨dq, osq⟩, rfl⟩
          go_wp2
          exact bodyPost_ret (v := .tuple #[.int .i64 lo, .bool true]) (by simp [results, Tryz.results34, go_sem]) rfl ⟨rfl, gTrans HBW.out (below_regrown wr dq osq)⟩
        · subst hz1
          go_upto_region 7 with (fail)
          refine wp_region_quiet_below (by kernel_rfl) (by kernel_rfl) ?_
          repeat (go_big_quiet_step ((go_at_call 73; exact HC _ _)))
          refine wpQuiet_nil ?_
          rintro _ ⟨⟨dq, osq⟩, rfl⟩
          go_wp2
          exact bodyPost_ret (v := .tuple #[.int .i64 lo, .bool false]) (by simp [results, Tryz.results34, go_sem]) rfl ⟨rfl, gTrans HBW.out (below_regrown wr dq osq)⟩
end Go.Proofs.YtfejflhgaphilaaGreatDoor

namespace Go.Proofs.YtfejflhgaphilaaGreatDoor
open Go.RowKit Go.Sort Lst

theorem infoP : (Tryz.prog.info? 49).map (fun i => (i.zero, i.size, i.bytes)) = some (some (.agg #[.int .i64 0, .string ⟨#[]⟩, .int .i64 0]), 3, 32) := by kernel_rfl

theorem splice_prs (A B : List Pr) (p : Pr) (x : Pr) (tl : List Value) : splice (prs (A ++ p :: B) ++ tl) (A.length * 3) x.cells = prs (A ++ x :: B) ++ tl := by
  have e : prs (A ++ p :: B) ++ tl = prs A ++ p.cells ++ (prs B ++ tl) := by simp [prs, List.flatMap_append]
  rw [e]
  have h1 : (prs A).length = A.length * 3 := flat_len len_prc A
  rw [splice_at h1 (show p.cells.length = x.cells.length from rfl)]
  simp [prs, List.flatMap_append]

theorem oneC (p : Pr) : ∀ v ∈ p.cells, v.oneCell' = true := by
  intro v h
  simp only [List.mem_cons, List.not_mem_nil, or_false] at h
  rcases h with rfl | rfl | rfl <;> rfl
/-- The cells of a block that is known whole, from its beginning on, as append reads them. -/
theorem news_of {w : World} {g : Nat} {cs : List Value} {t : TypeId} (h : Whole w g cs t) : ∀ j u, cs[j]? = some u → w.cell? ((⟨g, 0, none⟩ : Addr).add j) = some u := fun j u hj => by
  have := h.row j u hj
  rw [Addr.add_lit]; exact this
theorem oneP (l : List Pr) : ∀ v ∈ prs l, v.oneCell' = true := by
  intro v hv
  obtain ⟨p, _, h⟩ := List.mem_flatMap.1 hv
  simp only [List.mem_cons, List.not_mem_nil, or_false] at h
  rcases h with rfl | rfl | rfl <;> rfl
theorem len_prs (l : List Pr) : (prs l).length = l.length * 3 := flat_len len_prc l

/-- What was there stays as it was, but for one block. -/
theorem below_upd_by {g : Nat} {w a b : World} (h : Below w.heap.size w a) (k : Upd g a b) : w.grownBy b (some g) :=
  ⟨k.by_.os.trans h.os, k.by_.tape.trans h.tape, k.by_.output.trans h.output, by rw [k.size]; exact h.size, fun i hi hne => (k.heap (by intro e; exact hne (by rw [e]))).trans (h.block i hi)⟩
theorem grown_trans {g : Option Nat} {w a b : World} (h : w.grownBy a g) (k : a.grownBy b g) : w.grownBy b g :=
  ⟨k.os.trans h.os, k.tape.trans h.tape, k.output.trans h.output, Nat.le_trans h.size k.size, fun i hi hne => (k.block i (Nat.lt_of_lt_of_le hi h.size) hne).trans (h.block i hi hne)⟩
theorem below_by {g : Option Nat} {w a : World} (h : Below w.heap.size w a) : w.grownBy a g := ⟨h.os, h.tape, h.output, h.size, fun i hi _ => h.block i hi⟩
theorem by_upd {v : Option Nat} {g : Nat} {w a b : World} (h : w.grownBy a v) (k : Upd g a b) (hg : v = some g ∨ w.heap.size ≤ g) : w.grownBy b v :=
  ⟨k.by_.os.trans h.os, k.by_.tape.trans h.tape, k.by_.output.trans h.output, by rw [k.size]; exact h.size, fun i hi hne => (k.heap (by
    intro e
    rcases hg with hg | hg
    · exact hne (by rw [hg, e])
    · omega)).trans (h.block i hi hne)⟩

theorem ins_shift (A B : List Pr) (k : Pr) (tl : List Value) : splice (splice (prs (A ++ B ++ [pr0]) ++ tl) ((A.length + 1) * 3) (prs B)) (A.length * 3) k.cells = prs (A ++ k :: B) ++ tl := by
  obtain ⟨y, C, hC, hl⟩ : ∃ y C, B ++ [pr0] = y :: C ∧ C.length = B.length := by
    cases B with
    | nil => exact ⟨pr0, [], rfl, rfl⟩
    | cons b B => exact ⟨b, B ++ [pr0], rfl, by simp⟩
  have e1 : prs (A ++ B ++ [pr0]) ++ tl = prs (A ++ [y]) ++ prs C ++ tl := by
    rw [List.append_assoc, hC]; simp [prs, List.flatMap_append]
  rw [e1, splice_at (by rw [len_prs]; simp) (by rw [len_prs, len_prs, hl])]
  have e2 : prs (A ++ [y]) ++ prs B ++ tl = prs (A ++ y :: B) ++ tl := by simp [prs, List.flatMap_append]
  rw [e2, splice_prs]

set_option maxHeartbeats 4000000 in
set_option maxRecDepth 100000 in
theorem put_any (txt : Bool) (kk nn : Int) (L : List Pr) (k : Pr) (sl : Value) (base : Nat) (w : World) (hO : OrdOK kk nn) (hs : Srt (cmpP txt kk nn) L) (hL : ∀ p ∈ L, I64 p.key) (hk : I64 k.key) (hlen : L.length ≤ 900000)
    (hb : base ≤ w.heap.size) (hown : w.ownsRow base 49 3 sl L.length (prs L)) :
    Calls Tryz.prog 32 #[ordV kk nn, .bool txt, sl, k.v] w fun e w' => ∃ v', e = .returned v' ∧ w'.ownsRow base 49 3 v' (ins (fP txt kk nn k) k L).length (prs (ins (fP txt kk nn k) k L)) ∧ w.grownBy w' sl.ownBlock ∧ Moved w sl v' := by
  have hB := gNew2 w (.cells #[.int .u8 kk, .int .i64 nn] 23) (.cells #[.int .i64 k.key, .string k.text, .int .i64 k.val] 49)
  have HPLACE : Hid (∀ W, Below w.heap.size w W → Calls Tryz.prog 34 #[ordV kk nn, .bool txt, sl, k.v] W fun e w' => e = .returned (.tuple #[.int .i64 (pos (fP txt kk nn k) L), .bool (has (fP txt kk nn k) L)]) ∧ Below W.heap.size W w') :=
    fun W hW => place_any txt kk nn L k sl W hO hs hL hk (by omega) ((own_rowV hown).grow hW)
  have HPL := Lib.hid (pos_le (fP txt kk nn k) L)
  have HT : Hid (has (fP txt kk nn k) L = true → pos (fP txt kk nn k) L < L.length ∧ ins (fP txt kk nn k) k L = L.take (pos (fP txt kk nn k) L) ++ k :: L.drop (pos (fP txt kk nn k) L + 1)) := fun h => ⟨(has_true h).1, ins_old h⟩
  have HF : Hid (has (fP txt kk nn k) L = false → ins (fP txt kk nn k) k L = L.take (pos (fP txt kk nn k) L) ++ k :: L.drop (pos (fP txt kk nn k) L)) := ins_new
  have HOWN := Lib.hid hown
  clear hown hs hL hk hO
  generalize ins (fP txt kk nn k) k L = I at *
  generalize pos (fP txt kk nn k) L = P at *
  generalize has (fP txt kk nn k) L = H at *
  obtain ⟨kx, kt, kv⟩ := k
  simp only at hB HPLACE HT HF
  have q0 : ((w.alloc (.cells #[.int .u8 kk, .int .i64 nn] 23)).alloc (.cells #[.int .i64 kx, .string kt, .int .i64 kv] 49)).cell? ⟨w.heap.size, 0, none⟩ = some (.int .u8 kk) := by go_simp
  have q1 : ((w.alloc (.cells #[.int .u8 kk, .int .i64 nn] 23)).alloc (.cells #[.int .i64 kx, .string kt, .int .i64 kv] 49)).cell? ⟨w.heap.size, 1, none⟩ = some (.int .i64 nn) := by go_simp
  have q2 : ((w.alloc (.cells #[.int .u8 kk, .int .i64 nn] 23)).alloc (.cells #[.int .i64 kx, .string kt, .int .i64 kv] 49)).cell? ⟨w.heap.size + 1, 0, none⟩ = some (.int .i64 kx) := by go_simp
  have q3 : ((w.alloc (.cells #[.int .u8 kk, .int .i64 nn] 23)).alloc (.cells #[.int .i64 kx, .string kt, .int .i64 kv] 49)).cell? ⟨w.heap.size + 1, 1, none⟩ = some (.string kt) := by go_simp
  have q4 : ((w.alloc (.cells #[.int .u8 kk, .int .i64 nn] 23)).alloc (.cells #[.int .i64 kx, .string kt, .int .i64 kv] 49)).cell? ⟨w.heap.size + 1, 2, none⟩ = some (.int .i64 kv) := by go_simp
  have hsz : ((w.alloc (.cells #[.int .u8 kk, .int .i64 nn] 23)).alloc (.cells #[.int .i64 kx, .string kt, .int .i64 kv] 49)).heap.size = w.heap.size + 2 := by rw [alloc_sz, alloc_sz]
  have HC := Lib.hid (HPLACE.out _ hB)
  have HB := Lib.hid hB
  clear hB
  go_enter Tryz.func32, Tryz.ntmps32
  go_upto_region 1 with (fail)
  generalize ((w.alloc (.cells #[.int .u8 kk, .int .i64 nn] 23)).alloc (.cells #[.int .i64 kx, .string kt, .int .i64 kv] 49)) = wa at *
  obtain ⟨i0, hi, hz0, hz1, hz2⟩ := info_parts infoP
  cases H
  · have HI := Lib.hid (HF.out rfl)
    have hPi : (P : Int) ≤ (L.length : Int) := by have := HPL.out; omega
    clear HT HF
    go_upto_region 5 with (go_at_call 34; refine HC.out.mono ?_; rintro e w1 ⟨rfl, hB1⟩)
    have r2 := gCell hB1 q2
    have r3 := gCell hB1 q3
    have r4 := gCell hB1 q4
    have hB1' := gTrans HB.out hB1
    have hsz1 : w.heap.size + 2 ≤ w1.heap.size := by rw [← hsz]; exact hB1.size
    have HB2 := Lib.hid (gTrans hB1' (gNew w1 (.cells #[.int .i64 0, .string ⟨#[]⟩, .int .i64 0] 49)))
    have HN := Lib.hid (box_news w1 #[.int .i64 0, .string ⟨#[]⟩, .int .i64 0] 49)
    have HOWN2 := Lib.hid (HOWN.out.kept (below_by (g := none) HB2.out) (by cases sl.ownBlock <;> simp))
    have HSZ1 := Lib.hid hsz1
    clear hB1 hB1' q0 q1 q2 q3 q4 hsz hsz1
    have HNEWS := Lib.hid (news_of HN.out)
    have hbw : base ≤ (w1.alloc (.cells #[.int .i64 0, .string ⟨#[]⟩, .int .i64 0] 49)).heap.size := Nat.le_trans hb HB2.out.size
    have HBW := Lib.hid hbw
    clear hbw
    go_upto_region 6 with ((with_reducible refine at_slot 28 ?_); refine wpList_append_moved _ rfl _ _ 38 rfl base 49 i0 _ 3 32 Tryz.underlying38 hi hz0 hz1 hz2 rfl (by omega) sl L.length (prs L) (by rfl) HOWN2.out ⟨w1.heap.size, 0, none⟩ 1 1 pr0.cells (by rfl) rfl HNEWS.out (oneC pr0) (by simp only [maxLen]; omega) (by omega) HBW.out ?_; intro v2 w2 hown2 hg2 hm2)
    obtain ⟨g, cap, tl, rfl, hbg, hW, hc1, hc2, hc3⟩ := own_whole hown2 (by omega)
    have hltg : g < w2.heap.size := hW.lt
    have hslt := HOWN.out.lt
    have hgn : (sl.ownBlock = some g ∧ g < w.heap.size) ∨ (w.heap.size + 2 < g + 1 ∧ w1.heap.size < g) := by
      rcases hm2 g rfl with h | h
      · exact .inl ⟨h, (hslt g h).2⟩
      · rw [alloc_sz] at h; have := HSZ1.out; exact .inr ⟨by omega, by omega⟩
    have hgne : w.heap.size + 1 ≠ g := by omega
    have hMV : Moved w sl (.slice (some ⟨g, 0, none⟩) (L.length + 1) cap) := by
      intro k hk
      have hk' : k = g := by simpa [Value.ownBlock] using hk.symm
      subst hk'
      rcases hgn with h | h
      · exact .inl h.1
      · exact .inr (by omega)
    have hkb : some (w.heap.size + 1) ≠ sl.ownBlock := fun e => by have := (hslt _ e.symm).2; omega
    have t2 : w2.cell? ⟨w.heap.size + 1, 0, none⟩ = some (.int .i64 kx) := hg2.cell (gCell (gNew w1 _) r2) hkb
    have t3 : w2.cell? ⟨w.heap.size + 1, 1, none⟩ = some (.string kt) := hg2.cell (gCell (gNew w1 _) r3) hkb
    have t4 : w2.cell? ⟨w.heap.size + 1, 2, none⟩ = some (.int .i64 kv) := hg2.cell (gCell (gNew w1 _) r4) hkb
    have HMV := Lib.hid hMV
    have HGN := Lib.hid hgn
    have HG2 := Lib.hid (grown_trans (below_by (g := sl.ownBlock) HB2.out) hg2)
    have eL : prs L ++ pr0.cells = prs (L ++ [pr0]) := by simp [prs]
    rw [eL] at hW hc3
    have HROW : Hid (Row w2 g (0 + P * 3) (prs (L.drop P))) := by
      intro j v hj
      have hj2 : (prs L)[P * 3 + j]? = some v := by
        have e := flat_drop len_prc L P
        unfold prs at hj
        rw [← e, List.getElem?_drop] at hj
        exact hj
      have hlt2 := (List.getElem?_eq_some_iff.1 hj2).1
      have h := hW.row (P * 3 + j) v (by
        rw [List.getElem?_append_left (by rw [len_prs] at hlt2 ⊢; simp; omega)]
        simp only [prs, List.flatMap_append]
        rw [List.getElem?_append_left hlt2]
        exact hj2)
      rw [← Nat.add_assoc] at h
      exact h
    have HC3 := Lib.hid hc3
    have HPL2 : P ≤ L.length := HPL.out
    have LD : Hid ((prs (L.drop P)).length = (L.length - P) * 3) := by show _ = _; rw [len_prs]; simp
    have HFIT : Hid (0 + (P + 1) * 3 + (prs (L.drop P)).length ≤ (prs (L ++ [pr0]) ++ tl).length) := by
      show _ ≤ _
      rw [LD.out, List.length_append, len_prs]; simp; omega
    obtain ⟨D1, hD1, rD1⟩ := slice_from (P := Tryz.prog) 38 49 3 Tryz.underlying38 (by kernel_rfl) g 0 (L.length + 1) cap (P + 1) ((P : Int) + 1) (by omega) (by omega) hc1
    obtain ⟨D2, hD2, rD2⟩ := slice_from (P := Tryz.prog) 38 49 3 Tryz.underlying38 (by kernel_rfl) g 0 (L.length + 1) cap P (P : Int) rfl (by omega) hc1
    have HD1 := Lib.hid hD1
    have HD2 := Lib.hid hD2
    have HSLT := Lib.hid hslt
    have HNE := Lib.hid hgne
    clear hD1 hD2 hslt hgne hMV hgn hkb r2 r3 r4 hm2 hg2 hown2 eL hc3 hltg
    have hw1 : IntKind.i64.wrap ((P : Int) + 1) = (P : Int) + 1 := IntWalk.i64_in _ (by omega)
    refine wp_region_still_tail 7 (by kernel_rfl) (by kernel_rfl) ?_
    change wpStill _ _ w2.drew _ _ _
    simp only [List.take_succ_cons, List.take_zero, List.drop_succ_cons, List.drop_zero]
    repeat still_step
    clear hw1 rD1 rD2
    refine wpStill_nil ?_
    refine wpList_copyN (w := w2.drew) rfl _ _ _ _ rfl 49 3 Tryz.underlying38 (by kernel_rfl) _ _ _ _ _ _ rfl rfl g (0 + (P + 1) * 3) _ 49 hW (L.length - P) ?m1 (prs (L.drop P)) LD.out (fun hm => ⟨HD1.out (by omega), g, 0 + P * 3, HD2.out (by omega), HROW.out⟩) HFIT.out (oneP _) ?m6
    case m1 => (show _ = min _ _; omega)
    intro w4 HW4 hU4
    have hU4' := upd_drew hU4
    have s2 := hU4'.cell (p := ⟨w.heap.size + 1, 0, none⟩) HNE.out t2
    have s3 := hU4'.cell (p := ⟨w.heap.size + 1, 1, none⟩) HNE.out t3
    have s4 := hU4'.cell (p := ⟨w.heap.size + 1, 2, none⟩) HNE.out t4
    have HU4 := Lib.hid hU4'
    have HONE : Hid (∀ u ∈ (#[.int .i64 kx, .string kt, .int .i64 kv] : Array Value).toList, u.oneCell' = true) := oneC ⟨kx, kt, kv⟩
    have HFIT2 : Hid (P * 3 + 3 ≤ (splice (prs (L ++ [pr0]) ++ tl) (0 + (P + 1) * 3) (prs (L.drop P))).length) := by
      show _ ≤ _
      rw [splice_len HFIT.out, List.length_append, len_prs]; simp; omega
    have hPi2 : (P : Int) < ((L.length + 1 : Nat) : Int) := by omega
    clear hU4 hU4' t2 t3 t4 hW
    go_wp2_with ((with_reducible refine at_store 40 39 ?_); refine wpList_storeN (w := w4) rfl _ _ _ rfl g (P * 3) #[.int .i64 kx, .string kt, .int .i64 kv] (by first | rfl | simp [Act.eval]) rfl _ 49 HW4 (by kernel_rfl) HFIT2.out HONE.out ?_; intro w5 HW5 hU5)
    go_ret
    have hPt : (L.take P).length = P := by simp; omega
    have e := ins_shift (L.take P) (L.drop P) ⟨kx, kt, kv⟩ tl
    rw [List.take_append_drop, hPt, ← HI.out] at e
    have hW6 : Whole w5 g (prs I ++ tl) 49 := by
      rw [← e]
      rw [Nat.zero_add] at HW5
      exact HW5
    have hIl : I.length = L.length + 1 := by rw [HI.out]; simp; omega
    have hc3 := HC3.out
    have hU6 := HU4.out.trans hU5
    refine ⟨_, rfl, ?_, by_upd HG2.out hU6 (HGN.out.imp (fun h => h.1) (fun h => by omega)), HMV.out⟩
    rw [hIl]
    exact whole_own hbg hW6 (by rw [len_prs, hIl]) hc1 hc2 (by rw [← hc3, List.length_append, List.length_append, len_prs, len_prs, hIl]; simp)
  · obtain ⟨hP, hI⟩ := HT.out rfl
    have HI := Lib.hid hI
    obtain ⟨g, cap, tl, rfl, hbg, hW, hc1, hc2, hc3⟩ := own_whole HOWN.out (by omega)
    have hPi : (P : Int) < (L.length : Int) := by omega
    have HW := Lib.hid hW
    have HC3 := Lib.hid hc3
    clear hI hW hc3 HF HT
    go_upto_region 3 with (go_at_call 34; refine HC.out.mono ?_; rintro e w1 ⟨rfl, hB1⟩)
    have r2 := gCell hB1 q2
    have r3 := gCell hB1 q3
    have r4 := gCell hB1 q4
    have hB1' := gTrans HB.out hB1
    have hW1 := HW.out.grow hB1'
    have HB1 := Lib.hid hB1'
    have HONE : Hid (∀ u ∈ (#[.int .i64 kx, .string kt, .int .i64 kv] : Array Value).toList, u.oneCell' = true) := oneC ⟨kx, kt, kv⟩
    have HFIT : Hid (P * 3 + 3 ≤ (prs L ++ tl).length) := by
      show P * 3 + 3 ≤ (prs L ++ tl).length
      rw [List.length_append, len_prs]; omega
    clear hB1 hB1' HW q0 q1 q2 q3 q4 hsz
    go_wp2_with ((with_reducible refine at_store 23 22 ?_); refine wpList_storeN (w := w1) rfl _ _ _ rfl g (P * 3) #[.int .i64 kx, .string kt, .int .i64 kv] (by first | rfl | simp [Act.eval]) rfl _ 49 hW1 (by kernel_rfl) HFIT.out HONE.out ?_; intro w2 HW2 hU2)
    go_ret
    obtain ⟨p, hp⟩ : ∃ p, L[P]? = some p := ⟨_, List.getElem?_eq_getElem hP⟩
    obtain ⟨hPl, hPe⟩ := List.getElem?_eq_some_iff.1 hp
    have hLs : L = L.take P ++ p :: L.drop (P + 1) := by rw [← hPe, ← List.drop_eq_getElem_cons hPl, List.take_append_drop]
    have hPt : (L.take P).length = P := by simp; omega
    have hW3 : Whole w2 g (prs I ++ tl) 49 := by
      rw [HI.out]
      have e := splice_prs (L.take P) (L.drop (P + 1)) p ⟨kx, kt, kv⟩ tl
      rw [← hLs, hPt] at e
      rw [← e]
      exact HW2
    have hIl : I.length = L.length := by rw [HI.out]; simp; omega
    have hc3 := HC3.out
    refine ⟨_, rfl, ?_, below_upd_by HB1.out hU2, fun k hk => .inl hk⟩
    rw [hIl]
    exact whole_own hbg hW3 (by rw [len_prs, hIl]) hc1 hc2 (by rw [← hc3, List.length_append, List.length_append, len_prs, len_prs, hIl])
end Go.Proofs.YtfejflhgaphilaaGreatDoor

namespace Go.Proofs.YtfejflhgaphilaaGreatDoor
open Go.RowKit Go.Sort Lst

theorem mem_insP {f : Pr → Int} {x q : Pr} {l : List Pr} (h : q ∈ ins f x l) : q = x ∨ q ∈ l := by
  unfold ins at h
  rcases List.mem_append.1 h with h | h
  · exact .inr (List.mem_of_mem_take h)
  · rcases List.mem_cons.1 h with h | h
    · exact .inl h
    · exact .inr (List.mem_of_mem_drop h)
theorem key_keyP {txt : Bool} {p : Pr} (h : I64 p.key) : I64 (keyP txt p).key := by
  cases txt
  · exact h
  · show -9223372036854775808 ≤ (0 : Int) ∧ (0 : Int) ≤ 9223372036854775807; omega

/-- The pairs that were put so far. -/
structure PutSo (txt : Bool) (kk nn : Int) (ps : List Pr) (i : Nat) (l : List Pr) : Prop where
  srt : Srt (cmpP txt kk nn) l
  key : ∀ p ∈ l, I64 p.key
  len : l.length ≤ i
  run : putAll txt kk nn (ps.map (keyP txt)) [] = putAll txt kk nn ((ps.map (keyP txt)).drop i) l

theorem PutSo.start (txt : Bool) (kk nn : Int) (ps : List Pr) : PutSo txt kk nn ps 0 [] := ⟨List.Pairwise.nil, fun _ h => (by cases h), Nat.le_refl _, rfl⟩
theorem PutSo.step {txt : Bool} {kk nn : Int} {ps : List Pr} {i : Nat} {l : List Pr} {p : Pr} (h : PutSo txt kk nn ps i l) (hp : ps[i]? = some p) (hk : I64 p.key) :
    PutSo txt kk nn ps (i + 1) (ins (fP txt kk nn (keyP txt p)) (keyP txt p) l) := by
  refine ⟨srt_ins (ordP txt kk nn) h.srt _, fun q hq => ?_, ?_, putAll_step (by rw [List.getElem?_map, hp]; rfl) h.run⟩
  · rcases mem_insP hq with rfl | hq
    · exact key_keyP hk
    · exact h.key q hq
  · rw [length_ins]; have := h.len; split <;> omega

theorem own_base {w : World} {base base' : Nat} {e : TypeId} {size : Nat} {v : Value} {n : Nat} {xs : List Value} (h : w.ownsRow base e size v n xs) (hb : base' ≤ base) : w.ownsRow base' e size v n xs :=
  ⟨h.1, h.2.imp id fun ⟨g, cap, cur, h1, h2, h3⟩ => ⟨g, cap, cur, h1, Nat.le_trans hb h2, h3⟩⟩

end Go.Proofs.YtfejflhgaphilaaGreatDoor

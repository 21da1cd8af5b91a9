/-
  THE WALK of a leaf's delete, instance ss.
  THE WALKS of a branch's get and delete, instance ss.
-/
import Derived.Test.YtfejflhgaphilaaGreatDoorVDSS
import Derived.Test.YtfejflhgaphilaaGreatDoorVESS
import Derived.Test.YtfejflhgaphilaaGreatDoorVC
set_option linter.all false
set_option linter.unusedVariables false
set_option linter.unusedSimpArgs false
set_option linter.unusedSectionVars false
namespace Go.Proofs.YtfejflhgaphilaaGreatDoor
open Go.RowKit Go.Sort Lst
namespace Nss

set_option maxHeartbeats 4000000 in
set_option maxRecDepth 100000 in
theorem leafdel (kk nn : Int) (cv : Value) (hc : OK kk nn cv) (a b o cap : Nat) (l : List (ByteArray × Int)) (k : ByteArray) (w : World)
    (h4 : w.cell? ⟨a, 0, none⟩ = some (.slice (some ⟨b, o, none⟩) l.length cap)) (hR : Row w b o (l.flatMap Iss.ent)) (hl : l.length ≤ 32) (hs : Srt (c kk nn) l) (hwf : ∀ p ∈ l, WfS p.1) (hk : WfS k)
    (r : Nat) (rz : Bool) (hr : w.cell? ⟨r, 0, none⟩ = some (.bool rz)) (hrf : w.frozen? ⟨r, 0, none⟩ = false) (S : Nat → Prop) (hS : ∀ x, S x → x < w.heap.size) (hSr : ¬ S r) (hSa : S a) (hSb : S b)
    (hcap : l.length ≤ cap) :
    Calls Tryz.prog 219 #[.pointer (some ⟨a, 0, none⟩), Value.string k, cv, .bool false, .pointer (some ⟨r, 0, none⟩)] w
      (DelRes Iss w S r (rz || has (f kk nn k) l) 0 (.iface 233 (.pointer (some ⟨a, 0, none⟩))) (has (f kk nn k) l) (del (f kk nn k) l) (l.length - 17)) := by
  obtain ⟨ct, cx, fc, rv, rfl, n1, m1, eg, hcc⟩ := id hc
  have hle := pos_le (f kk nn k) l
  have IDX := fun W (hW : Below w.heap.size w W) => leafidx kk nn _ hc a b o cap l k W (gCell hW h4) (hR.grow hW) hl hs hwf hk
  obtain ⟨i0, hi, hz0, hz1, hz2⟩ := info_parts infoE
  have har : a ≠ r := fun e => hSr (e ▸ hSa)
  have hbr : b ≠ r := fun e => hSr (e ▸ hSb)
  have hat : pos (f kk nn k) l < l.length → ∃ x z, w.cell? ⟨b, o + pos (f kk nn k) l * 1, none⟩ = some (Value.string x) ∧ (∀ w, Calls Tryz.prog fc #[rv, Value.string x, Value.string k] w fun e w' => e = .returned (.int .i64 z) ∧ Below w.heap.size w w') ∧ has (f kk nn k) l = (z == 0) := by
    intro hlt
    obtain ⟨p, hp⟩ : ∃ p, l[pos (f kk nn k) l]? = some p := ⟨_, List.getElem?_eq_getElem hlt⟩
    refine ⟨p.1, cmpS kk p.1 k, by simpa using hR (pos (f kk nn k) l * 1) _ (flat_get entss hp (j := 0) (by decide)), fun w => hcc p.1 k w (hwf p (List.mem_of_getElem? hp)) hk, ?_⟩
    rw [has_of hp]
    rfl
  have hend : pos (f kk nn k) l = l.length → has (f kk nn k) l = false := has_end
  have hold := fun (h : has (f kk nn k) l = true) => show del (f kk nn k) l = l.take (pos (f kk nn k) l) ++ l.drop (pos (f kk nn k) l + 1) by unfold del; rw [if_pos h]
  have hold2 := fun (h : has (f kk nn k) l = true) => (has_true h).1
  have HOLD2 := Lib.hid hold2
  have HOLD := Lib.hid hold
  have HAT := Lib.hid hat
  have HEND := Lib.hid hend
  have HI := Lib.hid IDX
  have HHc := Lib.hid hcap
  clear hc IDX hs hcc hwf hold hat hend hold2
  generalize del (f kk nn k) l = l' at *
  generalize has (f kk nn k) l = hx at *
  generalize pos (f kk nn k) l = q at *
  generalize hn : l.length = n at *
  have HN := Lib.hid hn
  have HR := Lib.hid hR
  clear hn hR hcap
  have hqc1 : (q : Int) ≤ (cap : Int) := by have := HHc.out; omega
  have hqc2 : q ≤ cap := by omega
  go_enter Tryz.func219, Tryz.ntmps219
  go_upto_region 2 with (go_at_call 221; refine (HI.out _ (gRefl _)).mono ?_; rintro e w1 ⟨rfl, hB⟩)
  have HB1 := Lib.hid hB
  clear hB HI
  go_cut [40] (fun s40 wx => s40 = .bool (!hx) ∧ Below w1.heap.size w1 wx)
  case first =>
    by_cases he : q = n
    · have e0 := HEND.out he
      have E0 := Lib.hid e0
      have he' : decide (n ≤ q) = true := by simp; omega
      have he'' : decide ((n : Int) ≤ (q : Int)) = true := by simp; omega
      have g4 := fun d os => cell_regrown (gCell HB1.out h4) d os
      clear e0 he HEND
      refine wp_region_quiet_below (by kernel_rfl) (by kernel_rfl) ?_
      repeat (go_big_quiet_step (fail))
      refine wpQuiet_nil ?_
      rintro w2 ⟨⟨dq, osq⟩, hw2⟩
      have hB2 : Below w1.heap.size w1 w2 := by rw [hw2]; exact below_regrown w1 dq osq
      clear hw2
      go_wp2_with fail
      go_meet
      exact ⟨by rw [E0.out]; rfl, hB2⟩
    · obtain ⟨x, z, h5, hC, hz⟩ := HAT.out (by omega)
      rw [Nat.mul_one] at h5
      have hlt' : (q : Int) < (n : Int) := by omega
      have hlt'' : q < n := by omega
      have hlt3 : decide (n ≤ q) = false := by simp; omega
      have hlt4 : decide ((n : Int) ≤ (q : Int)) = false := by simp; omega
      have g4 := fun d os => cell_regrown (gCell HB1.out h4) d os
      have g5 := fun d os => cell_regrown (gCell HB1.out h5) d os
      have HC2 := Lib.hid (fun d os => Calls.regrown_of (hC (grow (redrawn w1 d) os)))
      have HZ := Lib.hid hz
      clear hC hz h5 he HEND
      refine wp_region_quiet_below (by kernel_rfl) (by kernel_rfl) ?_
      repeat (go_big_quiet_step ((go_at_fn fc; exact HC2.out _ _)))
      refine wpQuiet_nil ?_
      rintro w2 ⟨⟨dq, osq⟩, hw2⟩
      have hB2 : Below w1.heap.size w1 w2 := by rw [hw2]; exact below_regrown w1 dq osq
      clear hw2
      go_wp2_with fail
      go_meet
      exact ⟨by rw [HZ.out]; rfl, hB2⟩
  case rest =>
    obtain ⟨rfl, hB2'⟩ := hcut
    have hB2 := gTrans HB1.out hB2'
    have q4 := gCell hB2 h4
    have qr := gCell hB2 hr
    have qf := gFrozen (p := ⟨r, 0, none⟩) hB2 (World.block_lt_of_cell? w _ hr) hrf
    have gsz : w.heap.size ≤ wc.heap.size := hB2.size
    have qlt : r < wc.heap.size := World.block_lt_of_cell? wc _ qr
    have hag : a ≠ wc.heap.size := by have := hS a hSa; omega
    have hbg : b ≠ wc.heap.size := by have := hS b hSb; omega
    have hrg : r ≠ wc.heap.size := by omega
    have HB2 := Lib.hid hB2
    clear HAT HEND HB1 hB2 hB2' h4 hr hrf n1 m1 eg qlt
    have C1 : Hid (∀ j, j ≤ n → ((l.take j).flatMap Iss.ent).length = j * 1) := fun j hj => by rw [flat_len entss, List.length_take, HN.out, Nat.min_eq_left hj]
    have C2 : Hid (∀ j, j ≤ n → ((l.drop j).flatMap Iss.ent).length = (n - j) * 1) := fun j hj => by rw [flat_len entss, List.length_drop, HN.out]
    cases hx with
    | false =>
      clear HOLD HOLD2
      go_wp2
      go_ret
      try rw [Bool.or_false]
      exact ⟨frm_of HB2.out, qr, qf, .inl ⟨rfl, rfl⟩⟩
    | true =>
      have HINS := Lib.hid (HOLD.out rfl)
      have hlt := HOLD2.out rfl
      clear HOLD HOLD2
      have hlt' : (q : Int) < (n : Int) := by omega
      have q4s := set_cell (r := r) (o := 0) (v := .bool true) har q4
      have qrs := set_same (v := .bool true) qr
      have qfs := (set_frozen wc r 0 (.bool true) ⟨r, 0, none⟩).trans qf
      have hF := frm_set (frm_of (r := r) HB2.out) 0 (.bool true)
      have qR := set_row (v := .bool true) (o := 0) hbr (HR.out.grow HB2.out)
      have hsz := set_size wc ⟨r, 0, none⟩ (.bool true)
      by_cases h1 : n = 1
      · have h1' : ((n : Int) == 1) = true := by simp [h1]
        have hl' : l' = [] := List.eq_nil_of_length_eq_zero (by rw [HINS.out]; simp [HN.out]; omega)
        have HL := Lib.hid hl'
        have HF := Lib.hid hF
        have HQ := Lib.hid qrs
        clear h1 hl' hsz qR hF
        go_wp2
        go_ret
        try rw [Bool.or_true]
        exact ⟨HF.out, HQ.out, qfs, .inr (.inl ⟨rfl, HL.out, rfl⟩)⟩
      · have h1' : ((n : Int) == 1) = false := by rw [beq_eq_false_iff_ne]; omega
        have HF := Lib.hid hF
        have HQR := Lib.hid qR
        have HSZ := Lib.hid hsz
        have HQ := Lib.hid qrs
        clear hsz qR hF
        obtain ⟨m, rfl⟩ : ∃ m, n = m + 1 := ⟨n - 1, by omega⟩
        have hm0 : 0 < m := by omega
        clear h1
        go_upto_region 13 with (at_make; refine wpList_makeN rfl _ _ 236 rfl 235 i0 _ 1 24 Tryz.underlying236 hi hz0 hz1 hz2 _ _ _ _ m rfl rfl (by omega) (by omega) (by omega) (by omega) ?_; intro w3 cur hcl HW hB3 hs3)
        rw [HSZ.out] at HW hs3
        have q43 := gCell hB3 q4s
        have qr3 := gCell hB3 HQ.out
        have qf3 := gFrozen (p := ⟨r, 0, none⟩) hB3 (World.block_lt_of_cell? _ _ HQ.out) qfs
        have qR3 := HQR.out.grow hB3
        have hF3 := frm_below HF.out hB3
        have hB4 := gNew w3 (.cells #[.slice (some ⟨wc.heap.size, 0, none⟩) m m] 238)
        have qn := cell_new w3 (.slice (some ⟨wc.heap.size, 0, none⟩) m m) 238
        rw [hs3] at qn
        have HW4 := HW.grow hB4
        have q44 := gCell hB4 q43
        have qr4 := gCell hB4 qr3
        have qf4 := gFrozen (p := ⟨r, 0, none⟩) hB4 (World.block_lt_of_cell? _ _ qr3) qf3
        have qR4 := qR3.grow hB4
        have hF4 := frm_below hF3 hB4
        generalize w3.alloc (.cells #[.slice (some ⟨wc.heap.size, 0, none⟩) m m] 238) = w4 at *
        generalize wc.heap.size = g at *
        have R1 : Hid (∀ j, Row w4 b o ((l.take j).flatMap Iss.ent)) := fun j => by rw [← flat_take entss]; exact qR4.take _
        have R2 : Hid (∀ j, Row w4 b (o + j * 1) ((l.drop j).flatMap Iss.ent)) := fun j => by rw [← flat_drop entss]; exact qR4.drop _
        have HF := Lib.hid hF4
        have HW' := Lib.hid HW4
        have HCL := Lib.hid hcl
        have hqm1 : (q : Int) ≤ (m : Int) := by omega
        have hqm2 : q ≤ m := by omega
        have hgg : g + 1 ≠ g := by omega
        clear qR3 qR4 hF3 hF4 HW HW4 hs3 hcl hB3 hB4 q43 qr3 qf3 HQR HQ HSZ HB2 HR q4 q4s qr qrs qf qfs
        refine wp_region_still_tail 12 (by kernel_rfl) (by kernel_rfl) ?_
        change wpStill _ _ w4.drew _ _ _
        simp only [List.take_succ_cons, List.take_zero, List.drop_succ_cons, List.drop_zero]
        repeat still_step
        refine wpStill_nil ?_
        refine wpList_copyN (w := w4.drew) rfl _ _ _ _ rfl 235 1 Tryz.underlying236 (by kernel_rfl) _ _ _ _ _ _ rfl rfl g 0 cur 235 HW'.out q (Nat.min_self q).symm ((l.take q).flatMap Iss.ent) (C1.out q (by omega)) (fun _ => ⟨rfl, b, o, rfl, R1.out q⟩) (by have h1 := C1.out q (by omega); have h2 := HCL.out; omega) (oneE _) ?_
        intro w5 HW5 hU5
        have hU5' := upd_drew hU5
        have q45 := hU5'.cell (p := ⟨a, 0, none⟩) hag q44
        have qr5 := hU5'.cell (p := ⟨r, 0, none⟩) hrg qr4
        have qn5 := hU5'.cell (p := ⟨g + 1, 0, none⟩) hgg qn
        have qf5 := (hU5'.frozen (p := ⟨r, 0, none⟩) hrg).trans qf4
        have L5 : (splice cur 0 ((l.take q).flatMap Iss.ent)).length = m * 1 := by rw [splice_len (by rw [C1.out q (by omega), HCL.out]; omega), HCL.out]
        have L6 : splice (splice cur 0 ((l.take q).flatMap Iss.ent)) (q * 1) ((l.drop (q + 1)).flatMap Iss.ent) = (l.take q ++ l.drop (q + 1)).flatMap Iss.ent := by
          have e := splice_two (cur := cur) (A := (l.take q).flatMap Iss.ent) (B := (l.drop (q + 1)).flatMap Iss.ent) (by rw [C1.out q (by omega), C2.out (q + 1) (by omega), HCL.out]; omega)
          rw [C1.out q (by omega)] at e
          rw [e]
          simp
        have HU5 := Lib.hid hU5'
        have H5 := Lib.hid L5
        have H6 := Lib.hid L6
        obtain ⟨D1, hD1, rD1⟩ := slice_from (P := Tryz.prog) 236 235 1 Tryz.underlying236 (by kernel_rfl) g 0 m m q (q : Int) rfl (by omega) (Nat.le_refl _)
        obtain ⟨D2, hD2, rD2⟩ := slice_from (P := Tryz.prog) 236 235 1 Tryz.underlying236 (by kernel_rfl) b o (m + 1) cap (q + 1) ((q : Int) + 1) (by omega) (by omega) HHc.out
        have HD1 := Lib.hid hD1
        have HD2 := Lib.hid hD2
        clear q44 qr4 qf4 qn hU5 hU5' L5 L6 hD1 hD2 hqc1 hqc2 hqm1 hqm2
        go_wp2
        have hw1 : IntKind.i64.wrap ((q : Int) + 1) = (q : Int) + 1 := IntWalk.i64_in _ (by omega)
        refine wp_region_still_tail 13 (by kernel_rfl) (by kernel_rfl) ?_
        change wpStill _ _ w5.drew _ _ _
        simp only [List.take_succ_cons, List.take_zero, List.drop_succ_cons, List.drop_zero]
        repeat still_step
        clear hw1 rD1 rD2
        refine wpStill_nil ?_
        refine wpList_copyN (w := w5.drew) rfl _ _ _ _ rfl 235 1 Tryz.underlying236 (by kernel_rfl) _ _ _ _ _ _ rfl rfl g (0 + q * 1) _ 235 HW5 (m - q) ?m1 ((l.drop (q + 1)).flatMap Iss.ent) ?m2 (fun hm => ⟨HD1.out (by omega), b, o + (q + 1) * 1, HD2.out (by omega), ?m4⟩) ?m5 (oneE _) ?m6
        case m1 => first | exact (Nat.min_self _).symm | (show m - q = Nat.min (m + 1 - (q + 1)) (m - q); rw [Nat.add_sub_add_right]; exact (Nat.min_self _).symm)
        case m2 => rw [C2.out (q + 1) (by omega), Nat.add_sub_add_right]
        case m4 => exact (HU5.out.row hbg (R2.out (q + 1)))
        case m5 => rw [H5.out, C2.out (q + 1) (by omega), Nat.add_sub_add_right, Nat.zero_add, ← Nat.add_mul]; exact Nat.mul_le_mul_right _ (by omega)
        intro w6 HW6 hU6
        rw [Nat.zero_add, H6.out, ← HINS.out] at HW6
        have hU6' := upd_drew hU6
        have qr6 := hU6'.cell (p := ⟨r, 0, none⟩) hrg qr5
        have qn6 := hU6'.cell (p := ⟨g + 1, 0, none⟩) hgg qn5
        have qf6 := (hU6'.frozen (p := ⟨r, 0, none⟩) hrg).trans qf5
        have hF6 := frm_upd (frm_upd HF.out HU5.out gsz) hU6' gsz
        have hll : l'.length = m := by rw [HINS.out]; simp [HN.out]; omega
        have HF6 := Lib.hid hF6
        have HLL := Lib.hid hll
        clear q45 qr5 qf5 qn5 hU6 hU6' hF6 hll HW5 HW'
        go_wp2
        go_ret
        try rw [Bool.or_true]
        exact closeD HF6.out qr6 qf6 HW6 gsz qn6 (by omega) HLL.out hm0 (by omega) (by omega)
end Nss
end Go.Proofs.YtfejflhgaphilaaGreatDoor

namespace Go.Proofs.YtfejflhgaphilaaGreatDoor
open Go.RowKit Go.Sort Lst
namespace Nss

def fDel : Nat → FuncId | 0 => 219 | _ + 1 => 225
theorem meDel : ∀ (h a : Nat) (w : World), (method 474 (ty h) (.pointer (some ⟨a, 0, none⟩)) "pub-bracken/pub/immutable.delete").run Tryz.prog w = .ok (fDel h, .pointer (some ⟨a, 0, none⟩)) w
  | 0, _, _ => by kernel_rfl
  | _ + 1, _, _ => by kernel_rfl
theorem enDel : ∀ (h : Nat) (args : Array Value) (w : World), (callFunc (fDel h) args).run Tryz.prog w = .ok (.enter (fDel h) args) w
  | 0 => enters_of Tryz.func219 (by kernel_rfl) rfl
  | _ + 1 => enters_of Tryz.func225 (by kernel_rfl) rfl

set_option maxHeartbeats 4000000 in
set_option maxRecDepth 100000 in
theorem brdel (h : Nat) (kk nn : Int) (cv : Value) (hc : OK kk nn cv) (a b o cap : Nat) (ks : List (Kid ByteArray)) (k : ByteArray) (w : World)
    (h4 : w.cell? ⟨a, 0, none⟩ = some (.slice (some ⟨b, o, none⟩) ks.length cap)) (hR : Row w b o (ks.flatMap pay)) (hl : ks.length ≤ 32) (h0 : 0 < ks.length) (hcap : ks.length ≤ cap)
    (hs : Srt (c kk nn) (ks.map (·.l)).flatten) (hwf : ∀ c ∈ ks, ∀ p ∈ c.l, WfS p.1) (hk : WfS k)
    (r : Nat) (hr : w.cell? ⟨r, 0, none⟩ = some (.bool false)) (hrf : w.frozen? ⟨r, 0, none⟩ = false) (S : Nat → Prop) (hS : ∀ x, S x → x < w.heap.size) (hSr : ¬ S r) (hSa : S a) (hSb : S b)
    (hks : ∀ c ∈ ks, Node Iss w S h c.v c.l c.f)
    (IH : ∀ (ca : Nat) (l : List (ByteArray × Int)) (x : Nat) (W : World), Node Iss W S h (.iface (ty h) (.pointer (some ⟨ca, 0, none⟩))) l x → (∀ x, S x → x < W.heap.size) → W.cell? ⟨r, 0, none⟩ = some (.bool false) → W.frozen? ⟨r, 0, none⟩ = false →
      Srt (c kk nn) l → (∀ p ∈ l, WfS p.1) → Calls Tryz.prog (fDel h) #[.pointer (some ⟨ca, 0, none⟩), Value.string k, cv, .bool false, .pointer (some ⟨r, 0, none⟩)] W
        (DelRes Iss W S r (has (f kk nn k) l) h (.iface (ty h) (.pointer (some ⟨ca, 0, none⟩))) (has (f kk nn k) l) (del (f kk nn k) l) x)) :
    Calls Tryz.prog 225 #[.pointer (some ⟨a, 0, none⟩), Value.string k, cv, .bool false, .pointer (some ⟨r, 0, none⟩)] w
      (DelRes Iss w S r (has (f kk nn k) (ks.map (·.l)).flatten) (h + 1) (.iface 242 (.pointer (some ⟨a, 0, none⟩))) (has (f kk nn k) (ks.map (·.l)).flatten) (del (f kk nn k) (ks.map (·.l)).flatten) ((ks.map (·.f)).sum + 16 ^ (h + 1) * (ks.length - 17))) := by
  have hne : ∀ c ∈ ks, c.l ≠ [] := fun c hc => (hks c hc).ne
  have IDX := fun W (hW : Below w.heap.size w W) => bridx kk nn _ hc a b o cap ks k W (gCell hW h4) (hR.grow hW) hl hs hne hwf hk
  obtain ⟨x, hx, hq, hA, hB⟩ := br_mid kk nn k hs hne h0
  have hxm := List.mem_of_getElem? hx
  have hflat : (ks.map (·.l)).flatten = ((ks.take (bi kk nn k ks)).map (·.l)).flatten ++ x.l ++ ((ks.drop (bi kk nn k ks + 1)).map (·.l)).flatten := by
    have h1 : (ks.map (·.l)).flatten = ((ks.take (bi kk nn k ks) ++ x :: ks.drop (bi kk nn k ks + 1)).map (·.l)).flatten := by rw [← kids_split hx]
    rw [h1]; simp
  have hxs : Srt (c kk nn) x.l := (List.pairwise_flatten.1 hs).1 _ (List.mem_map.2 ⟨x, hxm, rfl⟩)
  have hdel := del_mid hA hB (li := x.l)
  have hhas := has_mid hA hB (li := x.l)
  rw [← hflat] at hdel hhas
  obtain ⟨ca, hca⟩ := node_ptr (hks x hxm)
  have hkeep : ∀ W, Below w.heap.size w W → ∀ c ∈ ks, Node Iss W S h c.v c.l c.f := fun W hW c hc => (hks c hc).keep (fun _ h => h) fun y hy => hW.block y (hS y hy)
  have CALL : ∀ W, Below w.heap.size w W → Calls Tryz.prog (fDel h) #[.pointer (some ⟨ca, 0, none⟩), Value.string k, cv, .bool false, .pointer (some ⟨r, 0, none⟩)] W fun e w' => ∃ nv, e = .returned nv ∧ KidD Iss w S r (has (f kk nn k) x.l) h (.iface (ty h) (.pointer (some ⟨ca, 0, none⟩))) (has (f kk nn k) x.l) (del (f kk nn k) x.l) x.f nv w' := fun W hW =>
    Calls.mono (R' := fun e w' => ∃ nv, e = .returned nv ∧ KidD Iss w S r (has (f kk nn k) x.l) h (.iface (ty h) (.pointer (some ⟨ca, 0, none⟩))) (has (f kk nn k) x.l) (del (f kk nn k) x.l) x.f nv w') (IH ca x.l x.f W (hca ▸ hkeep W hW x hxm) (fun y hy => Nat.lt_of_lt_of_le (hS y hy) hW.size) (gCell hW hr) (gFrozen hW (World.block_lt_of_cell? w _ hr) hrf) hxs (hwf x hxm)) fun _ _ => kidD_of hW
  have h5 : w.cell? ⟨b, o + (bi kk nn k ks * 2 + 1), none⟩ = some (.iface (ty h) (.pointer (some ⟨ca, 0, none⟩))) := by
    rw [← hca]; exact hR _ _ (flat_get pay_len hx (j := 1) (by decide))
  rw [← Nat.add_assoc] at h5
  have har : a ≠ r := fun e => hSr (e ▸ hSa)
  have hbr : b ≠ r := fun e => hSr (e ▸ hSb)
  obtain ⟨i0, hi, hz0, hz1, hz2⟩ := info_parts infoB
  obtain ⟨ct, cx, cfc, crv, rfl, _⟩ := id hc
  have m0 := meDel h ca
  have eg0 := enDel h
  rw [hhas, hdel]
  have HX := Lib.hid hx
  have HK := Lib.hid hks
  have HI := Lib.hid IDX
  have HC := Lib.hid CALL
  have H4 := Lib.hid h4
  have hla : a < w.heap.size := hS a hSa
  have hlb : b < w.heap.size := hS b hSb
  have HCAP := Lib.hid hcap
  have HO := Lib.hid (oneP hks)
  clear IDX CALL hkeep IH hc hs hwf hxs hflat hdel hhas hA hB hne h0 hks hca hxm hx hcap
  generalize hfc : fDel h = fd at *
  clear hfc
  generalize hli : del (f kk nn k) x.l = li at *
  clear hli
  generalize hLL : ((ks.take (bi kk nn k ks)).map (·.l)).flatten ++ li ++ ((ks.drop (bi kk nn k ks + 1)).map (·.l)).flatten = LL at *
  have HLL := Lib.hid hLL.symm
  clear hLL
  generalize has (f kk nn k) x.l = hx at *
  generalize bi kk nn k ks = q at *
  generalize hn : ks.length = n at *
  have HN := Lib.hid hn
  have HR := Lib.hid hR
  clear hn hR
  have hq' : (q : Int) < (n : Int) := by omega
  go_enter Tryz.func225, Tryz.ntmps225
  go_upto_region 2 with (go_at_call 227; refine (HI.out _ (gRefl _)).mono ?_; rintro e w1 ⟨rfl, hB1⟩)
  have q4 := gCell hB1 h4
  have q5 := gCell hB1 h5
  have HCW := Lib.hid (HC.out w1 hB1)
  clear hB1 HI HC h4 h5 hr hrf
  go_upto_region 3 with (go_at_fn fd; refine HCW.out.mono ?_; rintro e wc ⟨nv, rfl, hF, qr, qf, hK⟩)
  clear HCW q4 q5 m0 eg0
  have gsz : w.heap.size ≤ wc.heap.size := hF.size
  have q4 : wc.cell? ⟨a, 0, none⟩ = some (.slice (some ⟨b, o, none⟩) n cap) := cell_block (hF.block a hla (by simpa using har)) H4.out
  have qR : Row wc b o (ks.flatMap pay) := HR.out.of_block (hF.block b hlb (by simpa using hbr))
  have HKW : Hid (∀ c ∈ ks, Node Iss wc (Plus S w wc) h c.v c.l c.f) := fun c hc => (HK.out c hc).keep (fun x hx => .inl hx) fun y hy => hF.block y (hS y hy) (by intro e; injection e with e; exact hSr (e ▸ hy))
  have qlt : r < wc.heap.size := World.block_lt_of_cell? wc _ qr
  have C1 : Hid (∀ j, j ≤ n → ((ks.take j).flatMap pay).length = j * 2) := fun j hj => by rw [flat_len pay_len, List.length_take, HN.out, Nat.min_eq_left hj]
  have C2 : Hid (∀ j, j ≤ n → ((ks.drop j).flatMap pay).length = (n - j) * 2) := fun j hj => by rw [flat_len pay_len, List.length_drop, HN.out]
  have hag : a ≠ wc.heap.size := by omega
  have hbg : b ≠ wc.heap.size := by omega
  have hrg : r ≠ wc.heap.size := by omega
  have hga : wc.heap.size + 1 ≠ wc.heap.size := by omega
  rcases hK with ⟨rfl, rfl⟩ | ⟨rfl, rfl, rfl⟩ | ⟨rfl, f1, hn1, hf1⟩
  · go_wp2
    go_ret
    exact ⟨hF, qr, qf, .inl ⟨rfl, rfl⟩⟩
  · by_cases h1 : n = 1
    · have h1' : ((n : Int) == 1) = true := by simp [h1]
      have hl' : LL = [] := by
        rw [HLL.out, show ks.take q = [] by rw [show q = 0 by omega]; rfl, List.drop_of_length_le (by rw [HN.out]; omega)]
        rfl
      have HL := Lib.hid hl'
      clear h1 hl'
      go_wp2
      go_ret
      exact ⟨hF, qr, qf, .inr (.inl ⟨rfl, HL.out, rfl⟩)⟩
    · have h1' : ((n : Int) == 1) = false := by rw [beq_eq_false_iff_ne]; omega
      obtain ⟨m, rfl⟩ : ∃ m, n = m + 1 := ⟨n - 1, by omega⟩
      have hm0 : 0 < m := by omega
      clear h1
      go_upto_region 14 with (at_make; refine wpList_makeN rfl _ _ 318 rfl 321 i0 _ 2 32 Tryz.underlying318 hi hz0 hz1 hz2 _ _ _ _ m rfl rfl (by omega) (by omega) (by omega) (by omega) ?_; intro w3 cur hcl HW hB3 hs3)
      obtain ⟨hB4, HW4, hb4⟩ := box_over wc w3 (.slice (some ⟨wc.heap.size, 0, none⟩) m m) 323 hB3 HW hs3
      generalize w3.alloc (.cells #[.slice (some ⟨wc.heap.size, 0, none⟩) m m] 323) = w4 at *
      have q44 := gCell hB4 q4
      have qR4 := qR.grow hB4
      have R1 : Hid (Row w4 b o ((ks.take q).flatMap pay)) := by have := qR4.take (q * 2); rw [flat_take pay_len] at this; exact this
      have R2 : Hid (Row w4 b (o + (q + 1) * 2) ((ks.drop (q + 1)).flatMap pay)) := by have := qR4.drop ((q + 1) * 2); rw [flat_drop pay_len] at this; exact this
      have HCL := Lib.hid hcl
      have HB4 := Lib.hid hB4
      have HW4' := Lib.hid HW4
      have hqm1 : (q : Int) ≤ (m : Int) := by omega
      have hqm2 : q ≤ m := by omega
      have hqc1 : (q : Int) ≤ (cap : Int) := by have := HCAP.out; omega
      have hqc2 : q ≤ cap := by have := HCAP.out; omega
      clear hB3 hs3 HW w3 hcl hB4 q4 qR HW4 qR4
      refine wp_region_still_tail 12 (by kernel_rfl) (by kernel_rfl) ?_
      change wpStill _ _ w4.drew _ _ _
      simp only [List.take_succ_cons, List.take_zero, List.drop_succ_cons, List.drop_zero]
      repeat still_step
      refine wpStill_nil ?_
      refine wpList_copyN (w := w4.drew) rfl _ _ _ _ rfl 321 2 Tryz.underlying318 (by kernel_rfl) _ _ _ _ _ _ rfl rfl wc.heap.size 0 cur 321 HW4'.out q (Nat.min_self q).symm ((ks.take q).flatMap pay) (C1.out q (by omega)) (fun _ => ⟨rfl, b, o, rfl, R1.out⟩) (by have h1 := C1.out q (by omega); have h2 := HCL.out; omega) (fun v hv => HO.out v (by rw [List.mem_flatMap] at hv ⊢; obtain ⟨c, h1, h2⟩ := hv; exact ⟨c, List.mem_of_mem_take h1, h2⟩)) ?_
      intro w5 HW5 hU5'
      have hU5 := upd_drew hU5'
      clear hU5'
      have L5 : (splice cur 0 ((ks.take q).flatMap pay)).length = m * 2 := by rw [splice_len (by rw [C1.out q (by omega), HCL.out]; omega), HCL.out]
      have H5 := Lib.hid L5
      have hb5 := hU5.cell (p := ⟨wc.heap.size + 1, 0, none⟩) hga hb4
      have q45 := hU5.cell (p := ⟨a, 0, none⟩) hag q44
      have R3 := Lib.hid (hU5.row hbg R2.out)
      have HB5 := Lib.hid (below_upd HB4.out hU5 (Nat.le_refl _))
      have HW5' := Lib.hid HW5
      obtain ⟨D1, hD1, rD1⟩ := slice_from (P := Tryz.prog) 318 321 2 Tryz.underlying318 (by kernel_rfl) wc.heap.size 0 m m q (q : Int) rfl (by omega) (Nat.le_refl _)
      obtain ⟨D2, hD2, rD2⟩ := slice_from (P := Tryz.prog) 318 321 2 Tryz.underlying318 (by kernel_rfl) b o (m + 1) cap (q + 1) ((q : Int) + 1) (by omega) (by omega) HCAP.out
      have HD1 := Lib.hid hD1
      have HD2 := Lib.hid hD2
      clear q44 hb4 hU5 HB4 HW4' R1 R2 L5 HW5 hD1 hD2 hqm1 hqm2 hqc1 hqc2
      go_upto_region 15 with (fail)
      have hw1 : IntKind.i64.wrap ((q : Int) + 1) = (q : Int) + 1 := IntWalk.i64_in _ (by omega)
      refine wp_region_still_tail 13 (by kernel_rfl) (by kernel_rfl) ?_
      change wpStill _ _ w5.drew _ _ _
      simp only [List.take_succ_cons, List.take_zero, List.drop_succ_cons, List.drop_zero]
      repeat still_step
      clear hw1 rD1 rD2
      refine wpStill_nil ?_
      refine wpList_copyN (w := w5.drew) rfl _ _ _ _ rfl 321 2 Tryz.underlying318 (by kernel_rfl) _ _ _ _ _ _ rfl rfl wc.heap.size (0 + q * 2) _ 321 HW5'.out (m - q) ?m1 ((ks.drop (q + 1)).flatMap pay) ?m2 (fun hm => ⟨HD1.out (by omega), b, o + (q + 1) * 2, HD2.out (by omega), R3.out⟩) ?m5 (fun v hv => HO.out v (by rw [List.mem_flatMap] at hv ⊢; obtain ⟨c, h1, h2⟩ := hv; exact ⟨c, List.mem_of_mem_drop h1, h2⟩)) ?m6
      case m1 => first | exact (Nat.min_self _).symm | (show m - q = Nat.min (m + 1 - (q + 1)) (m - q); rw [Nat.add_sub_add_right]; exact (Nat.min_self _).symm)
      case m2 => rw [C2.out (q + 1) (by omega), Nat.add_sub_add_right]
      case m5 => rw [H5.out, C2.out (q + 1) (by omega), Nat.add_sub_add_right, Nat.zero_add, ← Nat.add_mul]; exact Nat.mul_le_mul_right _ (by omega)
      intro w6 HW6 hU6'
      have hU6 := upd_drew hU6'
      clear hU6'
      have L6 : splice (splice cur 0 ((ks.take q).flatMap pay)) (0 + q * 2) ((ks.drop (q + 1)).flatMap pay) = (ks.take q ++ ks.drop (q + 1)).flatMap pay := by
        have e := splice_two (cur := cur) (A := (ks.take q).flatMap pay) (B := (ks.drop (q + 1)).flatMap pay) (by rw [C1.out q (by omega), C2.out (q + 1) (by omega), HCL.out]; omega)
        rw [C1.out q (by omega)] at e
        rw [Nat.zero_add, e]
        simp
      have HW6' := Lib.hid (L6 ▸ HW6)
      have hb6 := hU6.cell (p := ⟨wc.heap.size + 1, 0, none⟩) hga hb5
      have HB6 := Lib.hid (below_upd HB5.out hU6 (Nat.le_refl _))
      clear hb5 hU6 HW5' HW6 L6 HB5 q45 R3 HD1 HD2
      go_wp2
      go_ret
      have HC := bcloseD1 (I := Iss) (l' := LL) (v0 := .iface 242 (.pointer (some ⟨a, 0, none⟩))) (w := w) (S := S) (ks := ks) (c := x) (frm_below hF HB6.out) (gCell HB6.out qr) (gFrozen HB6.out qlt qf) HW6'.out gsz hb6 (by omega) HN.out hm0 HX.out (by rw [HN.out]; exact hl) (fun c hc => (HKW.out c hc).plus hS gsz HB6.out) rfl rfl (by rw [HLL.out, List.append_nil])
      rw [HN.out] at HC
      exact HC
  · obtain ⟨ka, rfl, hlat, hmin⟩ := kid_later hS gsz hn1
    have m1 := meMin h ka
    have eg := enMin h
    obtain ⟨k1, hK1⟩ := key_is hn1.ne
    simp only [hK1] at hmin
    have HMIN := Lib.hid hmin
    have HLAT := Lib.hid hlat
    have HF1 := Lib.hid hf1
    have HK1 := Lib.hid hK1
    clear hn1 hmin hlat hf1 hK1
    generalize hfm : fMin h = fm at *
    clear hfm
    go_upto_region 21 with (at_make; refine wpList_makeN rfl _ _ 318 rfl 321 i0 _ 2 32 Tryz.underlying318 hi hz0 hz1 hz2 _ _ _ _ n rfl rfl (by omega) (by omega) (by omega) (by omega) ?_; intro w3 cur hcl HW hB3 hs3)
    obtain ⟨hB4, HW4, hb4⟩ := box_over wc w3 (.slice (some ⟨wc.heap.size, 0, none⟩) n n) 323 hB3 HW hs3
    generalize w3.alloc (.cells #[.slice (some ⟨wc.heap.size, 0, none⟩) n n] 323) = w4 at *
    have q44 := gCell hB4 q4
    have QR := Lib.hid (qR.grow hB4)
    have HCL := Lib.hid hcl
    have HB4 := Lib.hid hB4
    have HW4' := Lib.hid HW4
    have CN : Hid ((ks.flatMap pay).length = n * 2) := by show _ = _; rw [flat_len pay_len, HN.out]
    clear hB3 hs3 HW w3 hcl hB4 q4 qR HW4
    refine wp_region_still_tail 8 (by kernel_rfl) (by kernel_rfl) ?_
    change wpStill _ _ w4.drew _ _ _
    simp only [List.take_succ_cons, List.take_zero, List.drop_succ_cons, List.drop_zero]
    repeat still_step
    refine wpStill_nil ?_
    refine wpList_copyN (w := w4.drew) rfl _ _ _ _ rfl 321 2 Tryz.underlying318 (by kernel_rfl) (some ⟨wc.heap.size, 0, none⟩) (some ⟨b, o, none⟩) n n n cap (by rfl) (by rfl) wc.heap.size 0 cur 321 HW4'.out n (Nat.min_self n).symm (ks.flatMap pay) CN.out (fun _ => ⟨rfl, b, o, rfl, QR.out⟩) (by have h1 := CN.out; have h2 := HCL.out; omega) HO.out ?_
    intro w5 HW5 hU5'
    have hU5 := upd_drew hU5'
    clear hU5'
    go_upto_region 22 with (fail)
    have L4 : (splice cur 0 (ks.flatMap pay)).length = n * 2 := by rw [splice_len (by rw [CN.out, HCL.out]; omega), HCL.out]
    have H4' := Lib.hid (show q * 2 + (#[Value.string k1, .iface (ty h) (.pointer (some ⟨ka, 0, none⟩))] : Array Value).size ≤ (splice cur 0 (ks.flatMap pay)).length by rw [L4]; simp; omega)
    have hb5 := hU5.cell (p := ⟨wc.heap.size + 1, 0, none⟩) hga hb4
    have HB5 := Lib.hid (below_drew (below_upd HB4.out hU5 (Nat.le_refl _)))
    clear q44 hb4 hU5 HB4 HW4' QR
    refine wp_region_still_tail 10 (by kernel_rfl) (by kernel_rfl) ?_
    change wpStill _ _ w5.drew _ _ _
    simp only [List.take_succ_cons, List.take_zero, List.drop_succ_cons, List.drop_zero]
    repeat still_step
    still_call (HMIN.out w5.drew HB5.out)
    repeat still_step
    refine wpStill_nil ?_
    refine wpList_storeN (w := w5.drew) rfl _ _ _ rfl wc.heap.size (q * 2) #[Value.string k1, .iface (ty h) (.pointer (some ⟨ka, 0, none⟩))] (by first | rfl | simp [Act.eval]) rfl _ 321 HW5 (by kernel_rfl) H4'.out (by intro u hu; simp at hu; rcases hu with rfl | rfl <;> rfl) ?_
    intro w6 HW6 hU6
    have L6 : splice (splice cur 0 (ks.flatMap pay)) (q * 2) [Value.string k1, .iface (ty h) (.pointer (some ⟨ka, 0, none⟩))] = (ks.take q ++ (⟨.iface (ty h) (.pointer (some ⟨ka, 0, none⟩)), li, f1⟩ : Kid ByteArray) :: ks.drop (q + 1)).flatMap pay := by
      have e := splice2 (cur := cur) (L := ks.flatMap pay) (x := pay (⟨.iface (ty h) (.pointer (some ⟨ka, 0, none⟩)), li, f1⟩ : Kid ByteArray)) (n := q * 2) (by rw [CN.out, HCL.out]) (by rw [CN.out, pay_len, ← Nat.succ_mul]; exact Nat.mul_le_mul_right _ (by omega))
      rw [pay_len, flat_take pay_len, ← Nat.succ_mul, flat_drop pay_len] at e
      rw [show ([Value.string k1, .iface (ty h) (.pointer (some ⟨ka, 0, none⟩))] : List Value) = pay (⟨.iface (ty h) (.pointer (some ⟨ka, 0, none⟩)), li, f1⟩ : Kid ByteArray) by unfold pay; rw [← HK1.out], e]
      simp
    have HW6' := Lib.hid (L6 ▸ HW6)
    have hb6 := hU6.cell (p := ⟨wc.heap.size + 1, 0, none⟩) hga hb5
    have HB6 := Lib.hid (below_upd HB5.out hU6 (Nat.le_refl _))
    clear hb5 hU6 HW5 HW6 L6 L4 H4' HB5
    go_wp2
    go_ret
    have HC := bcloseD2 (I := Iss) (l' := LL) (v0 := .iface 242 (.pointer (some ⟨a, 0, none⟩))) (w := w) (S := S) (ks := ks) (c := x) (c1 := (⟨.iface (ty h) (.pointer (some ⟨ka, 0, none⟩)), li, f1⟩ : Kid ByteArray)) (frm_below hF HB6.out) (gCell HB6.out qr) (gFrozen HB6.out qlt qf) HW6'.out gsz (by rw [HN.out]; exact hb6) (by omega) HX.out (by rw [HN.out]; exact hl) (fun c hc => (HKW.out c hc).plus hS gsz HB6.out) (HLAT.out w6 HB6.out) HF1.out rfl rfl HLL.out
    rw [HN.out] at HC
    exact HC
end Nss
end Go.Proofs.YtfejflhgaphilaaGreatDoor

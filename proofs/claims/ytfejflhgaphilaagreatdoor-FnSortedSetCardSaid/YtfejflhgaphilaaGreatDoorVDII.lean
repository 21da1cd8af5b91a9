/-
  THE WALKS of a leaf's methods, instance ii: minKey, indexOf.
  THE WALK of a leaf's set, instance ii.
  THE WALKS of a branch's minKey and indexOf, and of any node's minKey, instance ii.
-/
import Derived.Test.YtfejflhgaphilaaGreatDoorVC
import Derived.StillTailTactics
import Derived.Deep.DeepCutAuto
set_option linter.all false
set_option linter.unusedVariables false
set_option linter.unusedSimpArgs false
set_option linter.unusedSectionVars false
namespace Go.Proofs.YtfejflhgaphilaaGreatDoor
open Go.RowKit Go.Sort Lst

def Iii : Inst Int := ⟨fun k => Value.int IntKind.i64 k, fun p => [Value.int IntKind.i64 p.1, Value.int IntKind.i64 p.2], 212, 298, 215⟩
theorem entii (p : Int × Int) : (Iii.ent p).length = 2 := rfl

namespace Nii

/-- The comparison of the entries' keys with k; of two entries. -/
def f (kk nn : Int) (k : Int) (p : Int × Int) : Int := cmpI kk nn p.1 k
def c (kk nn : Int) (p q : Int × Int) : Int := cmpI kk nn p.1 q.1
theorem ordc (kk nn : Int) : Ord3 (c kk nn) := (ord_cmpI kk nn).by Prod.fst
abbrev OK (kk nn : Int) (v : Value) : Prop := CmpOK (Value.int IntKind.i64) WfI (cmpI kk nn) v

set_option maxHeartbeats 1000000 in
/-- The closure of a leaf's indexOf. -/
theorem leafcl (kk nn : Int) (cv : Value) (hc : OK kk nn cv) (pc pn pk : Addr) (a b o n cap i : Nat) (x k : Int) (w : World) (h1 : w.cell? pc = some cv) (h2 : w.cell? pn = some (.pointer (some ⟨a, 0, none⟩)))
    (h3 : w.cell? pk = some (Value.int IntKind.i64 k)) (h4 : w.cell? ⟨a, 0, none⟩ = some (.slice (some ⟨b, o, none⟩) n cap)) (h5 : w.cell? ⟨b, o + i * 2, none⟩ = some (Value.int IntKind.i64 x)) (hi : i < n) (hx : WfI x) (hk : WfI k) :
    Calls Tryz.prog 218 #[.int .i64 i, .pointer (some pc), .pointer (some pn), .pointer (some pk)] w fun e w' => e = .returned (.bool (cmpI kk nn x k != -1)) ∧ Below w.heap.size w w' := by
  obtain ⟨ct, cx, fc, rv, rfl, n1, m1, eg, hcc⟩ := hc
  have HC := fun d os => Calls.regrown_of (hcc x k (grow (redrawn w d) os) hx hk)
  have hii : (i : Int) < (n : Int) := by omega
  have g1 := fun d os => cell_regrown h1 d os
  have g2 := fun d os => cell_regrown h2 d os
  have g3 := fun d os => cell_regrown h3 d os
  have g4 := fun d os => cell_regrown h4 d os
  have g5 := fun d os => cell_regrown h5 d os
  have HC' := Lib.hid HC
  clear h1 h2 h3 h4 h5 hcc HC
  go_enter Tryz.func218, Tryz.ntmps218
  go_wp2
  refine wp_region_quiet_below (by kernel_rfl) (by kernel_rfl) ?_
  repeat (go_big_quiet_step ((go_at_fn fc; exact HC'.out _ _)))
  refine wpQuiet_nil ?_
  rintro _ ⟨⟨dq, osq⟩, rfl⟩
  go_wp2
  go_ret
  exact ⟨rfl, below_regrown w dq osq⟩

theorem eLeaf : ∀ args w, (callFunc 218 args).run Tryz.prog w = .ok (.enter 218 args) w := enters_of Tryz.func218 (by kernel_rfl) rfl

def pl (kk nn : Int) (k : Int) (l : List (Int × Int)) (i : Nat) : Bool :=
  match l[i]? with
  | some p => cmpI kk nn p.1 k != -1
  | none => true

theorem pos_pl {kk nn : Int} {k : Int} {l : List (Int × Int)} {r : Nat} (hr : r ≤ l.length) (h1 : ∀ t, t < r → pl kk nn k l t = false) (h2 : ∀ t, r ≤ t → t < l.length → pl kk nn k l t = true) : pos (f kk nn k) l = r :=
  pos_eq _ _ _ hr (fun i p hi hp => by
    have := h1 i hi
    unfold pl at this
    rw [hp] at this
    simpa [f] using this) (fun p hp => by
    have := h2 r (Nat.le_refl _) (List.getElem?_eq_some_iff.1 hp).1
    unfold pl at this
    rw [hp] at this
    simpa [f] using this)

theorem mono_pl {kk nn : Int} {k : Int} {l : List (Int × Int)} (hs : Srt (c kk nn) l) : ∀ a b, a ≤ b → b < l.length → pl kk nn k l a = true → pl kk nn k l b = true := by
  intro a b hab hb h
  obtain ⟨p, hp⟩ : ∃ p, l[a]? = some p := ⟨_, List.getElem?_eq_getElem (by omega)⟩
  obtain ⟨q, hq⟩ : ∃ q, l[b]? = some q := ⟨_, List.getElem?_eq_getElem hb⟩
  unfold pl at h ⊢
  rw [hp] at h
  rw [hq]
  simp only [bne_iff_ne] at h ⊢
  exact srt_ge (ordc kk nn) hs (k := (k, 0)) hab hp hq h

set_option maxHeartbeats 1000000 in
/-- A leaf's indexOf: where the key stands, or would stand. -/
theorem leafidx (kk nn : Int) (cv : Value) (hc : OK kk nn cv) (a b o cap : Nat) (l : List (Int × Int)) (k : Int) (w : World)
    (h4 : w.cell? ⟨a, 0, none⟩ = some (.slice (some ⟨b, o, none⟩) l.length cap)) (hR : Row w b o (l.flatMap Iii.ent)) (hl : l.length ≤ 32) (hs : Srt (c kk nn) l) (hwf : ∀ p ∈ l, WfI p.1) (hk : WfI k) :
    Calls Tryz.prog 215 #[.pointer (some ⟨a, 0, none⟩), Value.int IntKind.i64 k, cv] w fun e w' => e = .returned (.int .i64 (pos (f kk nn k) l)) ∧ Below w.heap.size w w' := by
  have eg := eLeaf
  have key : ∀ (w0 : World) (pc pn pk : Addr), Below w.heap.size w w0 → w0.cell? pc = some cv → w0.cell? pn = some (.pointer (some ⟨a, 0, none⟩)) → w0.cell? pk = some (Value.int IntKind.i64 k) →
      Calls Tryz.prog 209 #[.int .i64 l.length, .func (.func 218) #[] #[.pointer (some pc), .pointer (some pn), .pointer (some pk)]] w0 fun e w' => e = .returned (.int .i64 (pos (f kk nn k) l)) ∧ Below w0.heap.size w0 w' := by
    intro w0 pc pn pk hB q1 q2 q3
    refine (search_any 218 #[.pointer (some pc), .pointer (some pn), .pointer (some pk)] l.length (pl kk nn k l) w0 eLeaf (by omega) ?_ (mono_pl hs)).mono ?_
    · intro W i hi hW
      obtain ⟨p, hp⟩ : ∃ p, l[i]? = some p := ⟨_, List.getElem?_eq_getElem hi⟩
      have e : pl kk nn k l i = (cmpI kk nn p.1 k != -1) := by unfold pl; rw [hp]
      rw [e]
      refine leafcl kk nn cv hc pc pn pk a b o l.length cap i p.1 k W (gCell hW q1) (gCell hW q2) (gCell hW q3) (gCell hW (gCell hB h4)) ?_ hi (hwf p (List.mem_of_getElem? hp)) hk
      exact gCell hW (gCell hB (hR (i * 2) _ (flat_get entii hp (j := 0) (by decide))))
    · rintro e w' ⟨r, rfl, hr, h1, h2, hB'⟩
      rw [pos_pl hr h1 h2]
      exact ⟨rfl, hB'⟩
  have KEY := Lib.hid key
  clear key hR hwf hs
  obtain ⟨ct, cx, fc, rv, rfl, _⟩ := hc
  have hab : a < w.heap.size := World.block_lt_of_cell? w ⟨a, 0, none⟩ h4
  have hab1 : a < w.heap.size + 1 := by omega
  have hab2 : a < w.heap.size + 1 + 1 := by omega
  go_enter Tryz.func215, Tryz.ntmps215
  go_wp2_with (go_at_call 209; refine (KEY.out _ _ _ _ ?_ ?_ ?_ ?_).mono ?_; exact gNew3 _ _ _ _; go_simp; go_simp; go_simp; rintro e w' ⟨rfl, hB⟩)
  go_ret
  exact ⟨rfl, gTrans (gNew3 _ _ _ _) hB⟩

set_option maxHeartbeats 1000000 in
/-- A leaf's minKey. -/
theorem leafmin (a b o cap : Nat) (l : List (Int × Int)) (w : World) (h4 : w.cell? ⟨a, 0, none⟩ = some (.slice (some ⟨b, o, none⟩) l.length cap)) (hR : Row w b o (l.flatMap Iii.ent)) (hl : 0 < l.length) :
    Calls Tryz.prog 216 #[.pointer (some ⟨a, 0, none⟩)] w fun e w' => e = .returned (keyOf Iii l) ∧ w = w' := by
  cases l with
  | nil => simp at hl
  | cons p r =>
    have h5 : w.cell? ⟨b, o, none⟩ = some (Value.int IntKind.i64 p.1) := by simpa using hR 0 _ (flat_get entii (l := p :: r) (i := 0) (j := 0) rfl (by decide))
    show Calls _ _ _ _ fun e w' => e = .returned (Value.int IntKind.i64 p.1) ∧ w = w'
    generalize (p :: r).length = n at *
    generalize p.1 = x at *
    clear hR
    have hl' : (0 : Int) < (n : Int) := by omega
    go_enter Tryz.func216, Tryz.ntmps216
    go_wp2
    go_ret
    exact ⟨rfl, rfl⟩

end Nii
end Go.Proofs.YtfejflhgaphilaaGreatDoor

namespace Go.Proofs.YtfejflhgaphilaaGreatDoor
open Go.RowKit Go.Sort Lst
namespace Nii

theorem infoE : (Tryz.prog.info? 215).map (fun i => (i.zero, i.size, i.bytes)) = some (some (.agg #[Value.int IntKind.i64 0, Value.int IntKind.i64 0]), 2, 16) := by kernel_rfl

abbrev val (v : Int) : Value := .int .i64 v

theorem oneE (l : List (Int × Int)) : ∀ v ∈ l.flatMap Iii.ent, v.oneCell' = true := by
  intro v hv
  obtain ⟨p, _, hp⟩ := List.mem_flatMap.1 hv
  simp [Iii] at hp
  rcases hp with rfl | rfl <;> rfl

theorem oneK (k : Int) (v : Int) : ∀ u ∈ (#[Value.int IntKind.i64 k, .int .i64 v] : Array Value).toList, u.oneCell' = true := by
  intro u hu
  simp at hu
  rcases hu with rfl | rfl <;> rfl
set_option maxHeartbeats 4000000 in
set_option maxRecDepth 100000 in
theorem leafset (kk nn : Int) (cv : Value) (hc : OK kk nn cv) (a b o cap : Nat) (l : List (Int × Int)) (k : Int) (v : Int) (w : World)
    (h4 : w.cell? ⟨a, 0, none⟩ = some (.slice (some ⟨b, o, none⟩) l.length cap)) (hR : Row w b o (l.flatMap Iii.ent)) (hl : l.length ≤ 32) (hs : Srt (c kk nn) l) (hwf : ∀ p ∈ l, WfI p.1) (hk : WfI k)
    (r : Nat) (rz : Bool) (hr : w.cell? ⟨r, 0, none⟩ = some (.bool rz)) (hrf : w.frozen? ⟨r, 0, none⟩ = false) (S : Nat → Prop) (hS : ∀ x, S x → x < w.heap.size) (hSr : ¬ S r) (hSa : S a) (hSb : S b)
    (hcap : l.length ≤ cap) :
    Calls Tryz.prog 217 #[.pointer (some ⟨a, 0, none⟩), Value.int IntKind.i64 k, val v, cv, .bool false, .pointer (some ⟨r, 0, none⟩)] w (SetRes Iii w S r (rz || !has (f kk nn k) l) 0 (ins (f kk nn k) (k, v) l) (l.length - 17)) := by
  obtain ⟨ct, cx, fc, rv, rfl, n1, m1, eg, hcc⟩ := id hc
  have hle := pos_le (f kk nn k) l
  have IDX := fun W (hW : Below w.heap.size w W) => leafidx kk nn _ hc a b o cap l k W (gCell hW h4) (hR.grow hW) hl hs hwf hk
  obtain ⟨i0, hi, hz0, hz1, hz2⟩ := info_parts infoE
  have har : a ≠ r := fun e => hSr (e ▸ hSa)
  have hbr : b ≠ r := fun e => hSr (e ▸ hSb)
  have hat : pos (f kk nn k) l < l.length → ∃ x z, w.cell? ⟨b, o + pos (f kk nn k) l * 2, none⟩ = some (Value.int IntKind.i64 x) ∧ (∀ w, Calls Tryz.prog fc #[rv, Value.int IntKind.i64 x, Value.int IntKind.i64 k] w fun e w' => e = .returned (.int .i64 z) ∧ Below w.heap.size w w') ∧ has (f kk nn k) l = (z == 0) := by
    intro hlt
    obtain ⟨p, hp⟩ : ∃ p, l[pos (f kk nn k) l]? = some p := ⟨_, List.getElem?_eq_getElem hlt⟩
    refine ⟨p.1, cmpI kk nn p.1 k, by simpa using hR (pos (f kk nn k) l * 2) _ (flat_get entii hp (j := 0) (by decide)), fun w => hcc p.1 k w (hwf p (List.mem_of_getElem? hp)) hk, ?_⟩
    rw [has_of hp]
    rfl
  have hend : pos (f kk nn k) l = l.length → has (f kk nn k) l = false := has_end
  have hnew := fun (h : has (f kk nn k) l = false) => ins_new (f := f kk nn k) (x := (k, v)) (l := l) h
  have hold := fun (h : has (f kk nn k) l = true) => ins_old (f := f kk nn k) (x := (k, v)) (l := l) h
  have hold2 := fun (h : has (f kk nn k) l = true) => (has_true h).1
  have HOLD2 := Lib.hid hold2
  have HNEW := Lib.hid hnew
  have HOLD := Lib.hid hold
  have HAT := Lib.hid hat
  have HEND := Lib.hid hend
  have HI := Lib.hid IDX
  have HHc := Lib.hid hcap
  clear hc IDX hs hcc hwf hnew hold hat hend hold2
  generalize ins (f kk nn k) (k, v) l = l' at *
  generalize has (f kk nn k) l = hx at *
  generalize pos (f kk nn k) l = q at *
  generalize hn : l.length = n at *
  have HN := Lib.hid hn
  have HR := Lib.hid hR
  clear hn hR hcap
  have hqc1 : (q : Int) ≤ (cap : Int) := by have := HHc.out; omega
  have hqc2 : q ≤ cap := by omega
  go_enter Tryz.func217, Tryz.ntmps217
  go_upto_region 2 with (go_at_call 215; refine (HI.out _ (gRefl _)).mono ?_; rintro e w1 ⟨rfl, hB⟩)
  have hB1 := hB
  have HB1 := Lib.hid hB1
  clear hB hB1 HI
  go_cut [15] (fun s15 wx => s15 = .bool hx ∧ Below w1.heap.size w1 wx)
  case first =>
    by_cases he : q = n
    · have e0 := HEND.out he
      have E0 := Lib.hid e0
      have he' : decide (q < n) = false := by simp; omega
      have he'' : decide ((q : Int) < (n : Int)) = false := by simp; omega
      have g4 := fun d os => cell_regrown (gCell HB1.out h4) d os
      clear e0 he HEND
      refine wp_region_quiet_below (by kernel_rfl) (by kernel_rfl) ?_
      repeat (go_big_quiet_step (fail))
      refine wpQuiet_nil ?_
      rintro w2 ⟨⟨dq, osq⟩, hw2⟩
      have hB2 : Below w1.heap.size w1 w2 := by rw [hw2]; exact below_regrown w1 dq osq
      clear hw2
      go_wp2_with fail
      go_meet
      exact ⟨by rw [E0.out], hB2⟩
    · obtain ⟨x, z, h5, hC, hz⟩ := HAT.out (by omega)
      have hlt' : (q : Int) < (n : Int) := by omega
      have hlt'' : q < n := by omega
      have g4 := fun d os => cell_regrown (gCell HB1.out h4) d os
      have g5 := fun d os => cell_regrown (gCell HB1.out h5) d os
      have HC2 := Lib.hid (fun d os => Calls.regrown_of (hC (grow (redrawn w1 d) os)))
      have HZ := Lib.hid hz
      clear hC hz h5 he HEND
      refine wp_region_quiet_below (by kernel_rfl) (by kernel_rfl) ?_
      repeat (go_big_quiet_step ((go_at_fn fc; exact HC2.out _ _)))
      refine wpQuiet_nil ?_
      rintro w2 ⟨⟨dq, osq⟩, hw2⟩
      have hB2 : Below w1.heap.size w1 w2 := by rw [hw2]; exact below_regrown w1 dq osq
      clear hw2
      go_wp2_with fail
      go_meet
      exact ⟨by rw [HZ.out], hB2⟩
  case rest =>
    obtain ⟨rfl, hB2'⟩ := hcut
    have hB2 := gTrans HB1.out hB2'
    have q4 := gCell hB2 h4
    have qr := gCell hB2 hr
    have qf := gFrozen (p := ⟨r, 0, none⟩) hB2 (World.block_lt_of_cell? w _ hr) hrf
    have gsz : w.heap.size ≤ wc.heap.size := hB2.size
    have qlt : r < wc.heap.size := World.block_lt_of_cell? wc _ qr
    have hag : a ≠ wc.heap.size := by have := hS a hSa; omega
    have hbg : b ≠ wc.heap.size := by have := hS b hSb; omega
    have hrg : r ≠ wc.heap.size := by omega
    have HB2 := Lib.hid hB2
    clear HAT HEND HB1 hB2 hB2' h4 hr hrf n1 m1 eg qlt
    have C1 : Hid (∀ j, j ≤ n → ((l.take j).flatMap Iii.ent).length = j * 2) := fun j hj => by rw [flat_len entii, List.length_take, HN.out, Nat.min_eq_left hj]
    have C2 : Hid (∀ j, j ≤ n → ((l.drop j).flatMap Iii.ent).length = (n - j) * 2) := fun j hj => by rw [flat_len entii, List.length_drop, HN.out]
    cases hx with
    | false =>
      have HINS := Lib.hid (HNEW.out rfl)
      clear HNEW HOLD HOLD2
      have hqn1 : (q : Int) ≤ (n : Int) + 1 := by omega
      have hqn2 : q ≤ n + 1 := by omega
      go_wp2_with (at_make; refine wpList_makeN rfl _ _ 216 rfl 215 i0 _ 2 16 Tryz.underlying216 hi hz0 hz1 hz2 _ _ _ _ (n + 1) rfl rfl (by omega) (by omega) (by omega) (by omega) ?_; intro w3 cur hcl HW hB3 hs3)
      rw [set_size] at HW hB3 hs3
      have q4' := gCell (p := ⟨a, 0, none⟩) (by rw [set_size]; exact hB3) (set_cell har q4)
      have qr' := gCell (p := ⟨r, 0, none⟩) (by rw [set_size]; exact hB3) (set_same qr)
      have qf' := gFrozen (p := ⟨r, 0, none⟩) (by rw [set_size]; exact hB3) (by rw [set_size]; exact World.block_lt_of_cell? wc _ qr) (by rw [set_frozen]; exact qf)
      have qR' := (set_row (v := .bool true) (o := 0) hbr (HR.out.grow HB2.out)).grow (by rw [set_size]; exact hB3)
      have hF := frm_below (frm_set (frm_of (r := r) HB2.out) 0 (.bool true)) (by rw [set_size]; exact hB3)
      generalize wc.heap.size = g at *
      have R1 : Hid (∀ j, Row w3 b o ((l.take j).flatMap Iii.ent)) := fun j => by rw [← flat_take entii]; exact qR'.take _
      have R2 : Hid (∀ j, Row w3 b (o + j * 2) ((l.drop j).flatMap Iii.ent)) := fun j => by rw [← flat_drop entii]; exact qR'.drop _
      have HF := Lib.hid hF
      have HW' := Lib.hid HW
      have HCL := Lib.hid hcl
      clear qR' hF HW hs3 hcl hB3 q4 qr qf HB2 HR
      refine wp_region_still_tail 9 (by kernel_rfl) (by kernel_rfl) ?_
      change wpStill _ _ w3.drew _ _ _
      simp only [List.take_succ_cons, List.take_zero, List.drop_succ_cons, List.drop_zero]
      repeat still_step
      refine wpStill_nil ?_
      refine wpList_copyN (w := w3.drew) rfl _ _ _ _ rfl 215 2 Tryz.underlying216 (by kernel_rfl) _ _ _ _ _ _ rfl rfl g 0 cur 215 HW'.out q (Nat.min_self q).symm ((l.take q).flatMap Iii.ent) (C1.out q (by omega)) (fun _ => ⟨rfl, b, o, rfl, R1.out q⟩) (by have h1 := C1.out q (by omega); have h2 := HCL.out; omega) (oneE _) ?_
      intro w4 HW4 hU4
      have hU4' := upd_drew hU4
      have L4 : (splice cur 0 ((l.take q).flatMap Iii.ent)).length = (n + 1) * 2 := by rw [splice_len (by rw [C1.out q (by omega), HCL.out]; omega), HCL.out]
      have L4' : q * 2 + (#[Value.int IntKind.i64 k, .int .i64 v] : Array Value).size ≤ (splice cur 0 ((l.take q).flatMap Iii.ent)).length := by rw [L4]; simp; omega
      have H4 := Lib.hid L4'
      have q4 := hU4'.cell (p := ⟨a, 0, none⟩) hag q4'
      have qr := hU4'.cell (p := ⟨r, 0, none⟩) hrg qr'
      have qf := (hU4'.frozen (p := ⟨r, 0, none⟩) hrg).trans qf'
      have HU4 := Lib.hid hU4'
      clear q4' qr' qf' hU4 L4 L4' hU4'
      go_wp2_with ((with_reducible refine at_store 167 166 ?_); refine wpList_storeN rfl _ _ _ rfl g (q * 2) #[Value.int IntKind.i64 k, .int .i64 v] (by first | rfl | simp [Act.eval]) rfl _ 215 HW4 (by kernel_rfl) H4.out (oneK k v) ?_; intro w5 HW5 hU5)
      change Whole w5 g (splice (splice cur 0 ((l.take q).flatMap Iii.ent)) (q * 2) (Iii.ent (k, v))) 215 at HW5
      have L5 : (splice (splice cur 0 ((l.take q).flatMap Iii.ent)) (q * 2) (Iii.ent (k, v))).length = (n + 1) * 2 := by
        rw [splice_len (by have := H4.out; simp [entii] at this ⊢; omega), splice_len (by rw [C1.out q (by omega), HCL.out]; omega), HCL.out]
      have L6 : (splice (splice (splice cur 0 ((l.take q).flatMap Iii.ent)) (q * 2) (Iii.ent (k, v))) ((q + 1) * 2) ((l.drop q).flatMap Iii.ent)) = ((l.take q ++ (k, v) :: l.drop q).flatMap Iii.ent) := by
        have e := splice3 (cur := cur) (A := (l.take q).flatMap Iii.ent) (x := Iii.ent (k, v)) (B := (l.drop q).flatMap Iii.ent) (by rw [C1.out q (by omega), C2.out q (by omega), HCL.out, entii]; omega)
        rw [C1.out q (by omega), entii] at e
        rw [Nat.add_mul, Nat.one_mul, e]
        simp
      have q4' := hU5.cell (p := ⟨a, 0, none⟩) hag q4
      have qr' := hU5.cell (p := ⟨r, 0, none⟩) hrg qr
      have qf' := (hU5.frozen (p := ⟨r, 0, none⟩) hrg).trans qf
      have HU5 := Lib.hid (HU4.out.trans hU5)
      have H5 := Lib.hid L5
      have H6 := Lib.hid L6
      obtain ⟨D1, hD1, rD1⟩ := slice_from (P := Tryz.prog) 216 215 2 Tryz.underlying216 (by kernel_rfl) g 0 (n + 1) (n + 1) (q + 1) ((q : Int) + 1) (by omega) (by omega) (Nat.le_refl _)
      obtain ⟨D2, hD2, rD2⟩ := slice_from (P := Tryz.prog) 216 215 2 Tryz.underlying216 (by kernel_rfl) b o n cap q (q : Int) rfl (by omega) HHc.out
      have HD1 := Lib.hid hD1
      have HD2 := Lib.hid hD2
      clear q4 qr qf hU5 L5 L6 HU4 H4 HW4 hD1 hD2 hqn1 hqn2 hqc1 hqc2
      go_wp2
      have hw1 : IntKind.i64.wrap ((q : Int) + 1) = (q : Int) + 1 := IntWalk.i64_in _ (by omega)
      refine wp_region_still_tail 10 (by kernel_rfl) (by kernel_rfl) ?_
      change wpStill _ _ w5.drew _ _ _
      simp only [List.take_succ_cons, List.take_zero, List.drop_succ_cons, List.drop_zero]
      repeat still_step
      clear hw1 rD1 rD2
      refine wpStill_nil ?_
      refine wpList_copyN (w := w5.drew) rfl _ _ _ _ rfl 215 2 Tryz.underlying216 (by kernel_rfl) _ _ _ _ _ _ rfl rfl g (0 + (q + 1) * 2) _ 215 HW5 (n - q) ?m1 ((l.drop q).flatMap Iii.ent) (C2.out q (by omega)) (fun hm => ⟨HD1.out (by omega), b, o + q * 2, HD2.out (by omega), ?m4⟩) ?m5 (oneE _) ?m6
      case m1 => simp
      case m4 => exact (HU5.out.row hbg (R2.out q))
      case m5 => rw [H5.out, C2.out q (by omega), Nat.zero_add, ← Nat.add_mul]; exact Nat.mul_le_mul_right _ (by omega)
      intro w6 HW6 hU6
      rw [Nat.zero_add, H6.out, ← HINS.out] at HW6
      have hU6' := upd_drew hU6
      have qr := hU6'.cell (p := ⟨r, 0, none⟩) hrg qr'
      have qf := (hU6'.frozen (p := ⟨r, 0, none⟩) hrg).trans qf'
      have hF6 := frm_upd (frm_upd HF.out HU5.out gsz) hU6' gsz
      have hll : l'.length = n + 1 := by rw [HINS.out]; simp [HN.out]; omega
      have HF6 := Lib.hid hF6
      have HLL := Lib.hid hll
      clear q4' qr' qf' hU6 hU6' hF6 hll HW5 HW'
      by_cases hsp : n < 32
      · go_wp2
        go_ret2
        try rw [Bool.not_false, Bool.or_true]
        exact close1 HF6.out qr qf HW6 gsz HLL.out (by omega) (by omega) (by omega)
      · obtain rfl : n = 32 := by omega
        go_wp2
        go_ret2
        try rw [Bool.not_false, Bool.or_true]
        exact close2 entii HF6.out qr qf HW6 gsz HLL.out (by omega)
    | true =>
      have HINS := Lib.hid (HOLD.out rfl)
      have hlt := HOLD2.out rfl
      clear HNEW HOLD HOLD2
      have hlt' : (q : Int) < (n : Int) := by omega
      go_upto_region 18 with (at_make; refine wpList_makeN rfl _ _ 216 rfl 215 i0 _ 2 16 Tryz.underlying216 hi hz0 hz1 hz2 _ _ _ _ n rfl rfl (by omega) (by omega) (by omega) (by omega) ?_; intro w3 cur hcl HW hB3 hs3; have q4' := gCell hB3 q4)
      have qr' := gCell hB3 qr
      have qf' := gFrozen (p := ⟨r, 0, none⟩) hB3 (World.block_lt_of_cell? wc _ qr) qf
      have qR' := (HR.out.grow HB2.out).grow hB3
      have hF := frm_below (frm_of (r := r) HB2.out) hB3
      generalize wc.heap.size = g at *
      have HF := Lib.hid hF
      have HW' := Lib.hid HW
      have HCL := Lib.hid hcl
      have QR := Lib.hid qR'
      clear qR' hF HW hs3 hcl hB3 q4 qr qf HB2 HR
      have CN : Hid ((l.flatMap Iii.ent).length = n * 2) := by show _ = _; rw [flat_len entii, HN.out]
      go_upto_region 19 with ((with_reducible refine at_slot 136 ?_); refine wpList_copyN rfl _ _ _ _ rfl 215 2 Tryz.underlying216 (by kernel_rfl) (some ⟨g, 0, none⟩) (some ⟨b, o, none⟩) n n n cap (by rfl) (by rfl) g 0 cur 215 HW'.out n (Nat.min_self n).symm (l.flatMap Iii.ent) CN.out (fun _ => ⟨rfl, b, o, rfl, QR.out⟩) (by have h1 := CN.out; have h2 := HCL.out; omega) (oneE _) ?_; intro w4 HW4 hU4)
      have L4 : (splice cur 0 (l.flatMap Iii.ent)).length = n * 2 := by rw [splice_len (by rw [CN.out, HCL.out]; omega), HCL.out]
      have L4' : q * 2 + (#[Value.int IntKind.i64 k, .int .i64 v] : Array Value).size ≤ (splice cur 0 (l.flatMap Iii.ent)).length := by rw [L4]; simp; omega
      have H4 := Lib.hid L4'
      have q4 := hU4.cell (p := ⟨a, 0, none⟩) hag q4'
      have qr := hU4.cell (p := ⟨r, 0, none⟩) hrg qr'
      have qf := (hU4.frozen (p := ⟨r, 0, none⟩) hrg).trans qf'
      have HU4 := Lib.hid hU4
      clear q4' qr' qf' hU4 L4 L4'
      go_wp2_with ((with_reducible refine at_store 142 141 ?_); refine wpList_storeN rfl _ _ _ rfl g (q * 2) #[Value.int IntKind.i64 k, .int .i64 v] (by first | rfl | simp [Act.eval]) rfl _ 215 HW4 (by kernel_rfl) H4.out (oneK k v) ?_; intro w5 HW5 hU5)
      change Whole w5 g (splice (splice cur 0 (l.flatMap Iii.ent)) (q * 2) (Iii.ent (k, v))) 215 at HW5
      have L6 : splice (splice cur 0 (l.flatMap Iii.ent)) (q * 2) (Iii.ent (k, v)) = (l.take q ++ (k, v) :: l.drop (q + 1)).flatMap Iii.ent := by
        have e := splice2 (cur := cur) (L := l.flatMap Iii.ent) (x := Iii.ent (k, v)) (n := q * 2) (by rw [CN.out, HCL.out]) (by rw [CN.out, entii, ← Nat.succ_mul]; exact Nat.mul_le_mul_right _ (by omega))
        rw [e, entii, flat_take entii, ← Nat.succ_mul, flat_drop entii]
        simp
      rw [L6, ← HINS.out] at HW5
      have qr' := hU5.cell (p := ⟨r, 0, none⟩) hrg qr
      have qf' := (hU5.frozen (p := ⟨r, 0, none⟩) hrg).trans qf
      have hF6 := frm_upd HF.out (HU4.out.trans hU5) gsz
      have hll : l'.length = n := by rw [HINS.out]; simp [HN.out]; omega
      have HF6 := Lib.hid hF6
      have HLL := Lib.hid hll
      clear q4 qr qf hU5 hF6 hll HW' L6
      go_wp2
      go_ret2
      try rw [Bool.not_true, Bool.or_false]
      exact close1 HF6.out qr' qf' HW5 gsz HLL.out (by omega) (by omega) (by omega)
end Nii
end Go.Proofs.YtfejflhgaphilaaGreatDoor

namespace Go.Proofs.YtfejflhgaphilaaGreatDoor
open Go.RowKit Go.Sort Lst
namespace Nii

/-- The type of a node of height h, and its methods. -/
def ty : Nat → TypeId | 0 => 212 | _ + 1 => 298
def fMin : Nat → FuncId | 0 => 216 | _ + 1 => 252

def pay (c : Kid Int) : List Value := [keyOf Iii c.l, c.v]
theorem pay_len (c : Kid Int) : (pay c).length = 2 := rfl

theorem node_ptr {w : World} {S : Nat → Prop} : ∀ {h : Nat} {v : Value} {l : List (Int × Int)} {x : Nat}, Node Iii w S h v l x → ∃ a, v = .iface (ty h) (.pointer (some ⟨a, 0, none⟩))
  | 0, _, _, _, ⟨a, _, _, _, h1, _⟩ => ⟨a, h1⟩
  | _ + 1, _, _, _, ⟨a, _, _, _, _, h1, _⟩ => ⟨a, h1⟩

theorem meMin : ∀ (h a : Nat) (w : World), (method 474 (ty h) (.pointer (some ⟨a, 0, none⟩)) "pub-bracken/pub/immutable.minKey").run Tryz.prog w = .ok (fMin h, .pointer (some ⟨a, 0, none⟩)) w
  | 0, _, _ => by kernel_rfl
  | _ + 1, _, _ => by kernel_rfl
theorem enMin : ∀ (h : Nat) (args : Array Value) (w : World), (callFunc (fMin h) args).run Tryz.prog w = .ok (.enter (fMin h) args) w
  | 0 => enters_of Tryz.func216 (by kernel_rfl) rfl
  | _ + 1 => enters_of Tryz.func252 (by kernel_rfl) rfl

set_option maxHeartbeats 1000000 in
theorem brmin (a b o cap : Nat) (n : Nat) (w : World) (h4 : w.cell? ⟨a, 0, none⟩ = some (.slice (some ⟨b, o, none⟩) n cap)) (hn : 0 < n) (ct : TypeId) (cx : Value) (fc : FuncId) (rv K : Value)
    (h5 : w.cell? ⟨b, o + 1, none⟩ = some (.iface ct cx)) (m1 : ∀ w, (method 474 ct cx "pub-bracken/pub/immutable.minKey").run Tryz.prog w = .ok (fc, rv) w)
    (eg : ∀ args w, (callFunc fc args).run Tryz.prog w = .ok (.enter fc args) w) (hc : Calls Tryz.prog fc #[rv] w fun e w' => e = .returned K ∧ w = w') :
    Calls Tryz.prog 252 #[.pointer (some ⟨a, 0, none⟩)] w fun e w' => e = .returned K ∧ w = w' := by
  have hn' : (0 : Int) < (n : Int) := by omega
  have HC := Lib.hid hc
  clear hc
  go_enter Tryz.func252, Tryz.ntmps252
  go_wp2_with (go_at_fn fc; refine HC.out.mono ?_; rintro e w' ⟨rfl, rfl⟩)
  go_ret
  exact ⟨rfl, rfl⟩

theorem keyOf_app {l m : List (Int × Int)} (h : l ≠ []) : keyOf Iii (l ++ m) = keyOf Iii l := by
  cases l with
  | nil => exact absurd rfl h
  | cons _ _ => rfl

/-- Any node's minKey: its first key. -/
theorem node_min {S : Nat → Prop} {w : World} : ∀ (h a : Nat) (l : List (Int × Int)) (x : Nat), Node Iii w S h (.iface (ty h) (.pointer (some ⟨a, 0, none⟩))) l x →
    Calls Tryz.prog (fMin h) #[.pointer (some ⟨a, 0, none⟩)] w fun e w' => e = .returned (keyOf Iii l) ∧ w = w'
  | 0, a, l, x, ⟨a', b, o, cap, h1, _, _, h4, _, _, h0, _, _, hR, _⟩ => by
    injection h1 with _ h1
    injection h1 with h1
    injection h1 with h1
    injection h1 with h1 _ _
    subst h1
    exact leafmin a b o cap l w h4 hR h0
  | h + 1, a, l, x, ⟨a', b, o, cap, ks, h1, _, _, h4, _, _, h0, _, hl, _, hR, hk⟩ => by
    injection h1 with _ h1
    injection h1 with h1
    injection h1 with h1
    injection h1 with h1 _ _
    subst h1
    cases ks with
    | nil => simp at h0
    | cons c r =>
      have hc := hk c (by simp)
      obtain ⟨ca, hca⟩ := node_ptr hc
      have ih := node_min h ca c.l c.f (hca ▸ hc)
      have h5 := hR 1 c.v (by simp)
      have e : keyOf Iii l = keyOf Iii c.l := by
        rw [hl]
        simp only [List.map_cons, List.flatten_cons]
        exact keyOf_app hc.ne
      rw [e]
      rw [hca] at h5
      exact brmin a b o cap _ w h4 (by simp) _ _ (fMin h) _ _ h5 (meMin h ca) (enMin h) ih

set_option maxHeartbeats 1000000 in
/-- The closure of a branch's indexOf. -/
theorem brcl (kk nn : Int) (cv : Value) (hc : OK kk nn cv) (pc pn pk : Addr) (a b o n cap i : Nat) (x k : Int) (w : World) (h1 : w.cell? pc = some cv) (h2 : w.cell? pn = some (.pointer (some ⟨a, 0, none⟩)))
    (h3 : w.cell? pk = some (Value.int IntKind.i64 k)) (h4 : w.cell? ⟨a, 0, none⟩ = some (.slice (some ⟨b, o, none⟩) n cap)) (h5 : w.cell? ⟨b, o + i * 2, none⟩ = some (Value.int IntKind.i64 x)) (hi : i < n) (hx : WfI x) (hk : WfI k) :
    Calls Tryz.prog 254 #[.int .i64 i, .pointer (some pc), .pointer (some pn), .pointer (some pk)] w fun e w' => e = .returned (.bool (cmpI kk nn x k == 1)) ∧ Below w.heap.size w w' := by
  obtain ⟨ct, cx, fc, rv, rfl, n1, m1, eg, hcc⟩ := hc
  have HC := fun d os => Calls.regrown_of (hcc x k (grow (redrawn w d) os) hx hk)
  have hii : (i : Int) < (n : Int) := by omega
  have g1 := fun d os => cell_regrown h1 d os
  have g2 := fun d os => cell_regrown h2 d os
  have g3 := fun d os => cell_regrown h3 d os
  have g4 := fun d os => cell_regrown h4 d os
  have g5 := fun d os => cell_regrown h5 d os
  have HC' := Lib.hid HC
  clear h1 h2 h3 h4 h5 hcc HC
  go_enter Tryz.func254, Tryz.ntmps254
  go_wp2
  refine wp_region_quiet_below (by kernel_rfl) (by kernel_rfl) ?_
  repeat (go_big_quiet_step ((go_at_fn fc; exact HC'.out _ _)))
  refine wpQuiet_nil ?_
  rintro _ ⟨⟨dq, osq⟩, rfl⟩
  go_wp2
  go_ret
  exact ⟨rfl, below_regrown w dq osq⟩

theorem eBr : ∀ args w, (callFunc 254 args).run Tryz.prog w = .ok (.enter 254 args) w := enters_of Tryz.func254 (by kernel_rfl) rfl

/-- A child against the key k: -1 where its first key is not above k. -/
def fk (kk nn : Int) (k : Int) (c : Kid Int) : Int :=
  match c.l with
  | p :: _ => if cmpI kk nn p.1 k = 1 then 0 else -1
  | [] => 0
def pb (kk nn : Int) (k : Int) (ks : List (Kid Int)) (i : Nat) : Bool :=
  match ks[i]? with
  | some c => fk kk nn k c == 0
  | none => true

theorem pos_pb {kk nn : Int} {k : Int} {ks : List (Kid Int)} {r : Nat} (hr : r ≤ ks.length) (h1 : ∀ t, t < r → pb kk nn k ks t = false) (h2 : ∀ t, r ≤ t → t < ks.length → pb kk nn k ks t = true) : pos (fk kk nn k) ks = r :=
  pos_eq _ _ _ hr (fun i p hi hp => by
    have := h1 i hi
    unfold pb at this
    rw [hp] at this
    simp [fk] at this ⊢
    split at this <;> simp_all) (fun p hp => by
    have := h2 r (Nat.le_refl _) (List.getElem?_eq_some_iff.1 hp).1
    unfold pb at this
    rw [hp] at this
    simp at this
    rw [this]
    decide)

theorem head_of {ks : List (Kid Int)} {t : Nat} {c : Kid Int} (h : ks[t]? = some c) : ((ks.map (·.l))[t]?).bind List.head? = c.l.head? := by
  rw [List.getElem?_map, h]; rfl

theorem mono_pb {kk nn : Int} {k : Int} {ks : List (Kid Int)} (hs : Srt (c kk nn) (ks.map (·.l)).flatten) (hne : ∀ c ∈ ks, c.l ≠ []) : ∀ a b, a ≤ b → b < ks.length → pb kk nn k ks a = true → pb kk nn k ks b = true := by
  intro a b hab hb h
  rcases Nat.lt_or_ge a b with hlt | hge
  · obtain ⟨u, hu⟩ : ∃ u, ks[a]? = some u := ⟨_, List.getElem?_eq_getElem (by omega)⟩
    obtain ⟨v, hv⟩ : ∃ v, ks[b]? = some v := ⟨_, List.getElem?_eq_getElem hb⟩
    unfold pb at h ⊢
    rw [hu] at h
    rw [hv]
    simp only [beq_iff_eq] at h ⊢
    have hu1 := hne u (List.mem_of_getElem? hu)
    have hv1 := hne v (List.mem_of_getElem? hv)
    have e1 := head_of hu
    have e2 := head_of hv
    unfold fk at h ⊢
    cases hul : u.l with
    | nil => exact absurd hul hu1
    | cons p _ =>
      cases hvl : v.l with
      | nil => exact absurd hvl hv1
      | cons q _ =>
        rw [hul] at h e1
        rw [hvl] at e2
        simp only at h ⊢
        have h3 := parts_heads hs hlt e1 e2
        have h4 : cmpI kk nn p.1 k = 1 := by
          split at h
          · assumption
          · cases h
        have O := ordc kk nn
        have h5 : c kk nn (k, 0) p = -1 := (O.swap _ _).2 h4
        have h6 : cmpI kk nn q.1 k = 1 := (O.swap (k, 0) q).1 (O.trans _ _ _ h5 h3)
        rw [if_pos h6]
  · obtain rfl : a = b := by omega
    exact h

/-- The child in which k belongs. -/
def bi (kk nn : Int) (k : Int) (ks : List (Kid Int)) : Nat := pos (fk kk nn k) ks - 1

set_option maxHeartbeats 1000000 in
/-- A branch's indexOf. -/
theorem bridx (kk nn : Int) (cv : Value) (hc : OK kk nn cv) (a b o cap : Nat) (ks : List (Kid Int)) (k : Int) (w : World)
    (h4 : w.cell? ⟨a, 0, none⟩ = some (.slice (some ⟨b, o, none⟩) ks.length cap)) (hR : Row w b o (ks.flatMap pay)) (hl : ks.length ≤ 32) (hs : Srt (c kk nn) (ks.map (·.l)).flatten) (hne : ∀ c ∈ ks, c.l ≠ [])
    (hwf : ∀ c ∈ ks, ∀ p ∈ c.l, WfI p.1) (hk : WfI k) :
    Calls Tryz.prog 251 #[.pointer (some ⟨a, 0, none⟩), Value.int IntKind.i64 k, cv] w fun e w' => e = .returned (.int .i64 (bi kk nn k ks)) ∧ Below w.heap.size w w' := by
  have eg := eBr
  have key : ∀ (w0 : World) (pc pn pk : Addr), Below w.heap.size w w0 → w0.cell? pc = some cv → w0.cell? pn = some (.pointer (some ⟨a, 0, none⟩)) → w0.cell? pk = some (Value.int IntKind.i64 k) →
      Calls Tryz.prog 209 #[.int .i64 ks.length, .func (.func 254) #[] #[.pointer (some pc), .pointer (some pn), .pointer (some pk)]] w0 fun e w' => e = .returned (.int .i64 (pos (fk kk nn k) ks)) ∧ Below w0.heap.size w0 w' := by
    intro w0 pc pn pk hB q1 q2 q3
    refine (search_any 254 #[.pointer (some pc), .pointer (some pn), .pointer (some pk)] ks.length (pb kk nn k ks) w0 eBr (by omega) ?_ (mono_pb hs hne)).mono ?_
    · intro W i hi hW
      obtain ⟨p, hp⟩ : ∃ p, ks[i]? = some p := ⟨_, List.getElem?_eq_getElem hi⟩
      have hm := List.mem_of_getElem? hp
      cases hpl : p.l with
      | nil => exact absurd hpl (hne p hm)
      | cons y _ =>
        have e : pb kk nn k ks i = (cmpI kk nn y.1 k == 1) := by
          have e1 : fk kk nn k p = if cmpI kk nn y.1 k = 1 then 0 else -1 := by unfold fk; rw [hpl]
          unfold pb
          rw [hp]
          simp only [e1]
          by_cases h : cmpI kk nn y.1 k = 1 <;> simp [h]
        rw [e]
        refine brcl kk nn cv hc pc pn pk a b o ks.length cap i y.1 k W (gCell hW q1) (gCell hW q2) (gCell hW q3) (gCell hW (gCell hB h4)) ?_ hi (hwf p hm y (by rw [hpl]; simp)) hk
        exact gCell hW (gCell hB (hR (i * 2) _ (by have := flat_get pay_len hp (j := 0) (by decide); simpa [pay, hpl, keyOf, Iii] using this)))
    · rintro e w' ⟨r, rfl, hr, h1, h2, hB'⟩
      rw [pos_pb hr h1 h2]
      exact ⟨rfl, hB'⟩
  have KEY := Lib.hid key
  clear key hR hwf hs hne
  obtain ⟨ct, cx, fc, rv, rfl, _⟩ := hc
  have hab : a < w.heap.size := World.block_lt_of_cell? w ⟨a, 0, none⟩ h4
  have hab1 : a < w.heap.size + 1 := by omega
  have hab2 : a < w.heap.size + 1 + 1 := by omega
  unfold bi
  have hpp := pos_le (fk kk nn k) ks
  generalize pos (fk kk nn k) ks = q at *
  by_cases hq : 0 < q
  · have hq1 : (0 : Int) < (q : Int) := by omega
    go_enter Tryz.func251, Tryz.ntmps251
    go_wp2_with (go_at_call 209; refine (KEY.out _ _ _ _ ?_ ?_ ?_ ?_).mono ?_; exact gNew3 _ _ _ _; go_simp; go_simp; go_simp; rintro e w' ⟨rfl, hB⟩)
    go_ret
    exact ⟨by rw [show ((q - 1 : Nat) : Int) = (q : Int) - 1 by omega]; rfl, gTrans (gNew3 _ _ _ _) hB⟩
  · obtain rfl : q = 0 := by omega
    go_enter Tryz.func251, Tryz.ntmps251
    go_wp2_with (go_at_call 209; refine (KEY.out _ _ _ _ ?_ ?_ ?_ ?_).mono ?_; exact gNew3 _ _ _ _; go_simp; go_simp; go_simp; rintro e w' ⟨rfl, hB⟩)
    go_ret
    exact ⟨rfl, gTrans (gNew3 _ _ _ _) hB⟩
end Nii
end Go.Proofs.YtfejflhgaphilaaGreatDoor

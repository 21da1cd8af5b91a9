/-
  THE WALKS of what the law of sorted sets lays ahead of its calls: what is too great, steps converted.
  THE WALK of the specification's SortedRight: what holds of a script that it lets in.
  THE WALK of the laws' comparison of answers.
-/
import Derived.Test.YtfejflhgaphilaaGreatDoorVY
import Derived.Test.YtfejflhgaphilaaGreatDoorVA
import Derived.Lib.QuietBelow
import Derived.BigQuiet
set_option linter.all false
set_option linter.unusedVariables false
set_option linter.unusedSimpArgs false
set_option linter.unusedSectionVars false
namespace Go.Proofs.YtfejflhgaphilaaGreatDoor
open Go.RowKit Go.Sort Lst

theorem fits5 (s : St) (w : World) : Calls Tryz.prog 19 #[.agg s.cells.toArray] w fun e w' => Says2 e (fun _ => True) ∧ Below w.heap.size w w' := by
  obtain ⟨op, sa, sk, st, sv, sc, sb⟩ := s
  by_cases h : (2147483647 : Int) < st.size
  · go_enter Tryz.func19, Tryz.ntmps19
    go_wp2
    go_ret
    exact ⟨⟨_, rfl, trivial⟩, gNew _ _⟩
  · go_enter Tryz.func19, Tryz.ntmps19
    go_wp2
    go_ret
    exact ⟨⟨_, rfl, trivial⟩, gNew _ _⟩

set_option maxHeartbeats 2000000 in
theorem fits4 (ps : List St) (sl : Value) (w : World) (hR : RowV w sl ps.length (sts ps)) :
    Calls Tryz.prog 5 #[sl] w fun e w' => Says2 e (fun b => b = true → ps.length ≤ 2147483647) ∧ Below w.heap.size w w' := by
  obtain ⟨a, cap, rfl, hcap, hrow⟩ := hR
  have HROW := Lib.hid hrow
  clear hrow
  by_cases hbig : (2147483647 : Int) < ps.length
  · go_enter Tryz.func5, Tryz.ntmps5
    go_wp2
    go_ret
    exact ⟨⟨false, rfl, fun h => (by cases h)⟩, Below.refl _ _⟩
  have HLE : Hid (ps.length ≤ 2147483647) := by show _ ≤ _; omega
  go_enter Tryz.func5, Tryz.ntmps5
  go_upto_region 4 with (fail)
  go_loopg [10] ps.length (fun g s10 wr => ∃ (i : Nat), i + g = ps.length ∧ s10 = .int .i64 i ∧ Below w.heap.size w wr)
  case atStart => exact ⟨0, by omega, rfl, Below.refl _ _⟩
  case round =>
    obtain ⟨i, hig, rfl, hB⟩ := hrel
    have hlt' : i < ps.length ∨ i = ps.length := by omega
    rcases hlt' with hlt | rfl
    · obtain ⟨b, o, rfl, hR⟩ := HROW.out (by omega)
      obtain ⟨⟨op, sa, sk, st, sv, sc, sb⟩, hp⟩ : ∃ p, ps[i]? = some p := ⟨_, List.getElem?_eq_getElem hlt⟩
      have hc := hR.st hp
      dsimp only at hc
      obtain ⟨c0, c1, c2, c3, c4, c5, c6⟩ := hc
      have s0 := gCell hB c0
      have s1 := gCell hB c1
      have s2 := gCell hB c2
      have s3 := gCell hB c3
      have s4 := gCell hB c4
      have s5 := gCell hB c5
      have s6 := gCell hB c6
      have hii : (i : Int) < (ps.length : Int) := by omega
      have HIG := Lib.hid hig
      have HBR := Lib.hid (gTrans hB (gNew wr (.cells #[.int .u8 op, .int .i64 sa, .int .i64 sk, .string st, .int .i64 sv, .int .i64 sc, .int .i64 sb] 64)))
      clear hB c0 c1 c2 c3 c4 c5 c6 hR hig hp
      go_wp2_with (go_at_call 19; refine (fits5 ⟨op, sa, sk, st, sv, sc, sb⟩ _).mono ?_; rintro e w5 ⟨⟨z, rfl, _⟩, hB5⟩; cases z)
      · go_ret
        exact ⟨⟨false, rfl, fun h => (by cases h)⟩, gTrans HBR.out hB5⟩
      · go_roundg (gk - 1)
        case measure => have := HIG.out; omega
        case rel => exact ⟨i + 1, by have := HIG.out; omega, by simp, gTrans HBR.out hB5⟩
    · have HBR := Lib.hid hB
      clear hB
      go_wp2
      go_ret
      exact ⟨⟨true, rfl, fun _ => HLE.out⟩, HBR.out⟩

set_option maxHeartbeats 2000000 in
theorem toSteps_any (ps : List St) (sl : Value) (w : World) (hlen : ps.length ≤ 800000) (hR : RowV w sl ps.length (sts ps)) :
    Calls Tryz.prog 9 #[sl] w fun e w' => ∃ v', e = .returned v' ∧ w'.ownsRow w.heap.size 90 7 v' ps.length (sts ps) ∧ Below w.heap.size w w' := by
  obtain ⟨a, cap, rfl, hcap, hrow⟩ := hR
  have HROW := Lib.hid hrow
  clear hrow
  obtain ⟨i0, hi, hz0, hz1, hz2⟩ := info_parts infoS
  go_enter Tryz.func9, Tryz.ntmps9
  go_upto_region 3 with (fail)
  go_loopg [3, 8] ps.length (fun g s3 s8 wr => ∃ (i : Nat), i + g = ps.length ∧ s8 = .int .i64 i ∧ wr.ownsRow w.heap.size 90 7 s3 i (sts (ps.take i)) ∧ Below w.heap.size w wr)
  case atStart => exact ⟨0, by omega, rfl, World.ownsRow_nil _ _ _ _, Below.refl _ _⟩
  case round =>
    obtain ⟨i, hig, rfl, hown, hB⟩ := hrel
    have hlt' : i < ps.length ∨ i = ps.length := by omega
    rcases hlt' with hlt | rfl
    · obtain ⟨b, o, rfl, hR⟩ := HROW.out (by omega)
      obtain ⟨⟨op, sa, sk, st, sv, sc, sb⟩, hp⟩ : ∃ p, ps[i]? = some p := ⟨_, List.getElem?_eq_getElem hlt⟩
      have hc := hR.st hp
      dsimp only at hc
      obtain ⟨c0, c1, c2, c3, c4, c5, c6⟩ := hc
      have s0 := gCell hB c0
      have s1 := gCell hB c1
      have s2 := gCell hB c2
      have s3 := gCell hB c3
      have s4 := gCell hB c4
      have s5 := gCell hB c5
      have s6 := gCell hB c6
      have hii : (i : Int) < (ps.length : Int) := by omega
      have HIG := Lib.hid hig
      have HP := Lib.hid hp
      have hg2 := gNew2 wr (.cells #[.int .u8 op, .int .i64 sa, .int .i64 sk, .string st, .int .i64 sv, .int .i64 sc, .int .i64 sb] 64) (.cells #[.int .u8 op, .int .i64 sa, .int .i64 sk, .string st, .int .i64 sv, .int .i64 sc, .int .i64 sb] 90)
      have HB2 := Lib.hid (gTrans hB hg2)
      have HO2 := Lib.hid (hown.kept (below_by (g := none) hg2) (by cases Value.ownBlock _ <;> simp))
      have HN := Lib.hid (news_of (box2 wr (.cells #[.int .u8 op, .int .i64 sa, .int .i64 sk, .string st, .int .i64 sv, .int .i64 sc, .int .i64 sb] 64) #[.int .u8 op, .int .i64 sa, .int .i64 sk, .string st, .int .i64 sv, .int .i64 sc, .int .i64 sb] 90))
      have HBASE := Lib.hid (Nat.le_trans hB.size hg2.size)
      have HMX : Hid (i + 1 ≤ maxLen) := by show _ ≤ _; simp only [maxLen]; omega
      have HBYT : Hid ((i + 1) * 64 ≤ 140737488355328) := by show _ ≤ _; omega
      clear hB c0 c1 c2 c3 c4 c5 c6 hR hig hp hown hg2
      go_wp2_with ((with_reducible refine at_slot 15 ?_); refine wpList_append_moved _ rfl _ _ 32 rfl w.heap.size 90 i0 _ 7 64 Tryz.underlying32 hi hz0 hz1 hz2 rfl (by omega) _ i (sts (ps.take i)) (by rfl) HO2.out ⟨wr.heap.size + 1, 0, none⟩ 1 1 (St.cells ⟨op, sa, sk, st, sv, sc, sb⟩) (by rfl) rfl HN.out (oneSt _) HMX.out HBYT.out HBASE.out ?_; intro v3 w3 hown3 hg3 hm3)
      have HLT := Lib.hid HO2.out.lt
      go_roundg (gk - 1)
      case measure => have := HIG.out; omega
      case rel =>
        refine ⟨i + 1, by have := HIG.out; omega, by simp, ?_, HB2.out.grown hg3 HBASE.out (fun k hk => (HLT.out k hk).1)⟩
        rw [take_next HP.out]
        simp only [sts, List.flatMap_append, List.flatMap_cons, List.flatMap_nil, List.append_nil]
        exact hown3
    · have HB2 := Lib.hid hB
      have hown' : wr.ownsRow w.heap.size 90 7 u3 ps.length (sts ps) := by simpa using hown
      have HOWN := Lib.hid hown'
      clear hB hown hown'
      go_wp2
      go_ret
      exact ⟨_, rfl, HOWN.out, HB2.out⟩
end Go.Proofs.YtfejflhgaphilaaGreatDoor

namespace Go.Proofs.YtfejflhgaphilaaGreatDoor
open Go.RowKit Go.Sort Lst

/-- A step that is let in. -/
structure StIn (s : St) : Prop where
  hi : s.op ≤ 6
  cl : 0 ≤ s.count
  ch : s.count ≤ 3000
  text : s.text.size ≤ 100

set_option maxHeartbeats 8000000 in
set_option maxRecDepth 100000 in
theorem sortedRight_any (kk nn : Int) (hk0 : 0 ≤ kk) (ss : List St) (sl : Value) (w : World) (hR : RowV w sl ss.length (sts ss)) :
    Calls Tryz.prog 6 #[ordV kk nn, sl] w fun e w' => Says2 e (fun b => b = true → OrdOK kk nn ∧ ss.length ≤ 200 ∧ (∀ s ∈ ss, StIn s) ∧ wts ss ≤ 20200) ∧ Below w.heap.size w w' := by
  obtain ⟨a, cap, rfl, hcap, hrow⟩ := hR
  have HROW := Lib.hid hrow
  clear hrow
  have HB := Lib.hid (gNew w (.cells #[.int .u8 kk, .int .i64 nn] 23))
  have q0 : (w.alloc (.cells #[.int .u8 kk, .int .i64 nn] 23)).cell? ⟨w.heap.size, 0, none⟩ = some (.int .u8 kk) := by go_simp
  have q1 : (w.alloc (.cells #[.int .u8 kk, .int .i64 nn] 23)).cell? ⟨w.heap.size, 1, none⟩ = some (.int .i64 nn) := by go_simp
  go_enter Tryz.func6, Tryz.ntmps6
  go_upto_region 1 with (fail)
  generalize w.alloc (.cells #[.int .u8 kk, .int .i64 nn] 23) = wa at *
  go_cut [16] (fun s16 wx => ∃ z : Bool, s16 = .bool z ∧ (z = false → OrdOK kk nn ∧ ss.length ≤ 200) ∧ Below wa.heap.size wa wx)
  case first =>
    by_cases hb : (200 : Int) < ss.length
    · go_wp2_with (go_at_call 20; refine (right_any kk nn _ hk0).mono ?_; rintro e w5 ⟨⟨z, rfl, hz⟩, hB5⟩; cases z)
      · go_meet
        exact ⟨true, rfl, fun h => (by cases h), hB5⟩
      · go_meet
        exact ⟨true, rfl, fun h => (by cases h), hB5⟩
    · have HLE : Hid (ss.length ≤ 200) := by show _ ≤ _; omega
      have hdb : decide ((200 : Int) < ss.length) = false := decide_eq_false hb
      go_wp2_with (go_at_call 20; refine (right_any kk nn _ hk0).mono ?_; rintro e w5 ⟨⟨z, rfl, hz⟩, hB5⟩; cases z)
      · go_meet
        exact ⟨true, rfl, fun h => (by cases h), hB5⟩
      · have HZ : Hid (OrdOK kk nn) := hz (by simp)
        clear hz
        go_wp2_with fail
        go_meet
        exact ⟨false, by first | rfl | rw [hdb], fun _ => ⟨HZ.out, HLE.out⟩, hB5⟩
  case rest =>
  obtain ⟨z, rfl, hz, hBz⟩ := hcut
  have HBZ := Lib.hid (gTrans HB.out hBz)
  clear hBz q0 q1
  cases z
  · have HZ : Hid (OrdOK kk nn ∧ ss.length ≤ 200) := hz (by simp)
    have h200 : ss.length ≤ 200 := HZ.out.2
    clear hz
    go_upto_region 5 with (fail)
    go_loopg [5, 6, 19] ss.length (fun g s5 s6 s19 wr => ∃ (i : Nat) (al li : Int), i + g = ss.length ∧ s5 = .int .i64 al ∧ s6 = .int .i64 li ∧ s19 = .int .i64 i ∧ 0 ≤ al ∧ al ≤ 3000 * i ∧ 0 ≤ li ∧ li ≤ i ∧ ((∀ s ∈ ss.take i, StIn s) ∧ (wts (ss.take i) : Int) ≤ al + i) ∧ Below w.heap.size w wr)
    case atStart => exact ⟨0, 0, 0, by omega, rfl, rfl, rfl, by omega, by omega, by omega, by omega, ⟨fun s h => (by simp at h), by rw [wts_zero]; omega⟩, HBZ.out⟩
    case round =>
      obtain ⟨i, al, li, hig, rfl, rfl, rfl, ha0, ha1, hl0, hl1, ⟨hin, hwt⟩, hB⟩ := hrel
      have hlt' : i < ss.length ∨ i = ss.length := by omega
      rcases hlt' with hlt | rfl
      · obtain ⟨b, o, rfl, hR⟩ := HROW.out (by omega)
        obtain ⟨⟨op, sa, sk, st, sv, sc, sb⟩, hp⟩ : ∃ p, ss[i]? = some p := ⟨_, List.getElem?_eq_getElem hlt⟩
        have hc := hR.st hp
        dsimp only at hc
        obtain ⟨c0, c1, c2, c3, c4, c5, c6⟩ := hc
        have s0 := gCell hB c0
        have s1 := gCell hB c1
        have s2 := gCell hB c2
        have s3 := gCell hB c3
        have s4 := gCell hB c4
        have s5 := gCell hB c5
        have s6 := gCell hB c6
        have hii : (i : Int) < (ss.length : Int) := by omega
        have HIG := Lib.hid hig
        have HP := Lib.hid hp
        have HIN := Lib.hid hin
        have HWT := Lib.hid hwt
        have HBR := Lib.hid (gTrans hB (gNew wr (.cells #[.int .u8 op, .int .i64 sa, .int .i64 sk, .string st, .int .i64 sv, .int .i64 sc, .int .i64 sb] 64)))
        clear hB c0 c1 c2 c3 c4 c5 c6 hR hig hp hin hwt
        by_cases h1 : (6 : Int) < op
        · have d1 : decide ((6 : Int) < op) = true := decide_eq_true h1
          go_wp2
          go_ret
          exact ⟨⟨false, rfl, fun h => (by cases h)⟩, HBR.out⟩
        have d1 : decide ((6 : Int) < op) = false := decide_eq_false h1
        by_cases h2 : sc < 0
        · have d2 : decide (sc < 0) = true := decide_eq_true h2
          go_wp2
          go_ret
          exact ⟨⟨false, rfl, fun h => (by cases h)⟩, HBR.out⟩
        have d2 : decide (sc < 0) = false := decide_eq_false h2
        by_cases h3 : (3000 : Int) < sc
        · have d3 : decide ((3000 : Int) < sc) = true := decide_eq_true h3
          go_wp2
          go_ret
          exact ⟨⟨false, rfl, fun h => (by cases h)⟩, HBR.out⟩
        have d3 : decide ((3000 : Int) < sc) = false := decide_eq_false h3
        by_cases h4 : (100 : Int) < st.size
        · have d4 : decide ((100 : Int) < st.size) = true := decide_eq_true h4
          go_wp2
          go_ret
          exact ⟨⟨false, rfl, fun h => (by cases h)⟩, HBR.out⟩
        have d4 : decide ((100 : Int) < st.size) = false := decide_eq_false h4
        have HST : Hid (∀ s ∈ ss.take (i + 1), StIn s) := by
          intro s hs
          rw [take_next HP.out] at hs
          rcases List.mem_append.1 hs with hs | hs
          · exact HIN.out s hs
          · simp only [List.mem_cons, List.not_mem_nil, or_false] at hs
            subst hs
            exact ⟨by show op ≤ 6; omega, by show 0 ≤ sc; omega, by show sc ≤ 3000; omega, by show st.size ≤ 100; omega⟩
        have hw : al + sc ≤ 603000 := by omega
        have hops : (op = 3 ∧ ¬ (5 : Int) ≤ op) ∨ (op = 4 ∧ ¬ (5 : Int) ≤ op) ∨ ((op == 3) = false ∧ (op == 4) = false ∧ ¬ (5 : Int) ≤ op) ∨ ((op == 3) = false ∧ (op == 4) = false ∧ (5 : Int) ≤ op) := by
          by_cases e3 : op = 3
          · exact .inl ⟨e3, by omega⟩
          · by_cases e4 : op = 4
            · exact .inr (.inl ⟨e4, by omega⟩)
            · by_cases e5 : (5 : Int) ≤ op
              · exact .inr (.inr (.inr ⟨beq_eq_false_iff_ne.2 e3, beq_eq_false_iff_ne.2 e4, e5⟩))
              · exact .inr (.inr (.inl ⟨beq_eq_false_iff_ne.2 e3, beq_eq_false_iff_ne.2 e4, e5⟩))
        rcases hops with ⟨rfl, e5⟩ | ⟨rfl, e5⟩ | ⟨e3, e4, e5⟩ | ⟨e3, e4, e5⟩
        · go_wp2
          go_roundg (gk - 1)
          case measure => have := HIG.out; omega
          case rel => exact ⟨i + 1, al, li + 1, by have := HIG.out; omega, rfl, rfl, by simp, by omega, by omega, by omega, by omega, ⟨HST.out, by rw [wts_next HP.out]; have := HWT.out; have h1 : wt ⟨3, sa, sk, st, sv, sc, sb⟩ = 1 := rfl; omega⟩, HBR.out⟩
        · go_wp2
          go_roundg (gk - 1)
          case measure => have := HIG.out; omega
          case rel => exact ⟨i + 1, al, li + 1, by have := HIG.out; omega, rfl, rfl, by simp, by omega, by omega, by omega, by omega, ⟨HST.out, by rw [wts_next HP.out]; have := HWT.out; have h1 : wt ⟨4, sa, sk, st, sv, sc, sb⟩ = 1 := rfl; omega⟩, HBR.out⟩
        · go_wp2
          go_roundg (gk - 1)
          case measure => have := HIG.out; omega
          case rel => exact ⟨i + 1, al, li, by have := HIG.out; omega, rfl, rfl, by simp, by omega, by omega, by omega, by omega, ⟨HST.out, by rw [wts_next HP.out]; have := HWT.out; have h1 : wt ⟨op, sa, sk, st, sv, sc, sb⟩ = 1 := wt_one (by show ¬ (op = 5 ∨ op = 6); omega); omega⟩, HBR.out⟩
        · go_wp2
          go_roundg (gk - 1)
          case measure => have := HIG.out; omega
          case rel => exact ⟨i + 1, al + sc, li, by have := HIG.out; omega, rfl, rfl, by simp, by omega, by omega, by omega, by omega, ⟨HST.out, by rw [wts_next HP.out]; have := HWT.out; have h1 : wt ⟨op, sa, sk, st, sv, sc, sb⟩ = sc.toNat := wt_many (by show op = 5 ∨ op = 6; omega); omega⟩, HBR.out⟩
      · rw [List.take_length] at hin hwt
        have HIN := Lib.hid hin
        have HWT := Lib.hid hwt
        have HBR := Lib.hid hB
        clear hB hin hwt
        by_cases e1 : al ≤ 20000
        · have d1 : decide (al ≤ 20000) = true := decide_eq_true e1
          go_wp2
          go_ret
          exact ⟨⟨_, rfl, fun _ => ⟨HZ.out.1, HZ.out.2, HIN.out, by have := HWT.out; omega⟩⟩, HBR.out⟩
        · have d1 : decide (al ≤ 20000) = false := decide_eq_false e1
          go_wp2
          go_ret
          exact ⟨⟨_, rfl, fun h => (by simp at h)⟩, HBR.out⟩
  · clear hz
    go_wp2
    go_ret
    exact ⟨⟨false, rfl, fun h => (by cases h)⟩, HBZ.out⟩
end Go.Proofs.YtfejflhgaphilaaGreatDoor

namespace Go.Proofs.YtfejflhgaphilaaGreatDoor
open Go.RowKit Go.Sort Lst

/-- v is a slice of the answers al. -/
def AnsV (w : World) (v : Value) (al : List An) : Prop :=
  ∃ outs : List (An × Value), outs.map (·.1) = al ∧ RowV w v outs.length (ancs outs) ∧ ∀ x ∈ outs, RowV w x.2 x.1.list.length (prs x.1.list)
theorem Answers.ansV {base : Nat} {w : World} {v : Value} {al : List An} (h : Answers base w v al) : AnsV w v al := by
  obtain ⟨outs, h1, h2, h3⟩ := h
  exact ⟨outs, h1, h2.v, fun x hx => (h3 x hx).v⟩
theorem AnsV.grow {w w' : World} {v : Value} {al : List An} (h : AnsV w v al) (hw : Below w.heap.size w w') : AnsV w' v al := by
  obtain ⟨outs, h1, h2, h3⟩ := h
  exact ⟨outs, h1, h2.grow hw, fun x hx => (h3 x hx).grow hw⟩
theorem AnsV.cells {w : World} {v : Value} {al : List An} (h : AnsV w v al) : ∃ a c, v = .slice a al.length c ∧ (0 < al.length → ∃ b o, a = some ⟨b, o, none⟩ ∧ ∀ (m : Nat) (an : An), al[m]? = some an →
    w.cell? ⟨b, o + m * 4, none⟩ = some (.int .i64 an.val) ∧ w.cell? ⟨b, o + m * 4 + 1, none⟩ = some (.int .i64 an.n) ∧ w.cell? ⟨b, o + m * 4 + 2, none⟩ = some (.bool an.ok) ∧ ∃ la lc, w.cell? ⟨b, o + m * 4 + 3, none⟩ = some (.slice la an.list.length lc) ∧ RowV w (.slice la an.list.length lc) an.list.length (prs an.list)) := by
  obtain ⟨outs, rfl, ⟨a, c, rfl, hc, hr⟩, hl⟩ := h
  refine ⟨a, c, by rw [List.length_map], fun h0 => ?_⟩
  rw [List.length_map] at h0
  obtain ⟨b, o, rfl, hrow⟩ := hr h0
  refine ⟨b, o, rfl, fun m an hm => ?_⟩
  rw [List.getElem?_map] at hm
  cases hx : outs[m]? with
  | none => rw [hx] at hm; cases hm
  | some x =>
    rw [hx] at hm
    simp only [Option.map_some, Option.some.injEq] at hm
    subst hm
    have h0 := hrow (m * 4 + 0) _ (flat_get len_anc hx (by decide))
    have h1 := hrow (m * 4 + 1) _ (flat_get len_anc hx (by decide))
    have h2 := hrow (m * 4 + 2) _ (flat_get len_anc hx (by decide))
    have h3 := hrow (m * 4 + 3) _ (flat_get len_anc hx (by decide))
    rw [← Nat.add_assoc] at h0 h1 h2 h3
    have hrv := hl x (List.mem_of_getElem? hx)
    obtain ⟨la, lc, he, _⟩ := id hrv
    refine ⟨h0, h1, h2, la, lc, ?_, ?_⟩
    · rw [← he]; exact h3
    · rw [← he]; exact hrv

set_option maxHeartbeats 8000000 in
set_option maxRecDepth 100000 in
/-- Answers that are alike are found so. -/
theorem sameAnswers_any (al : List An) (va vb : Value) (w : World) (hlen : al.length ≤ 800000) (hll : ∀ an ∈ al, an.list.length ≤ 800000) (ha : AnsV w va al) (hb : AnsV w vb al) :
    Calls Tryz.prog 10 #[va, vb] w fun e w' => e = .returned (.bool true) ∧ Below w.heap.size w w' := by
  obtain ⟨aa, ca, rfl, hra⟩ := ha.cells
  obtain ⟨ab, cb, rfl, hrb⟩ := hb.cells
  have HRA := Lib.hid hra
  have HRB := Lib.hid hrb
  have HLL := Lib.hid hll
  clear hra hrb hll ha hb
  go_enter Tryz.func10, Tryz.ntmps10
  go_upto_region 4 with (fail)
  go_loopg [13] al.length (fun g s13 wr => ∃ (i : Nat), i + g = al.length ∧ s13 = .int .i64 i ∧ Below w.heap.size w wr)
  case atStart => exact ⟨0, by omega, rfl, Below.refl _ _⟩
  case round =>
    obtain ⟨i, hig, rfl, hB⟩ := hrel
    have hlt' : i < al.length ∨ i = al.length := by omega
    rcases hlt' with hlt | rfl
    · obtain ⟨b, o, rfl, hR⟩ := HRA.out (by omega)
      obtain ⟨b2, o2, rfl, hR2⟩ := HRB.out (by omega)
      obtain ⟨⟨av, an1, aok, ls⟩, hp⟩ : ∃ p, al[i]? = some p := ⟨_, List.getElem?_eq_getElem hlt⟩
      have h1 := hR i _ hp
      have h2 := hR2 i _ hp
      dsimp only at h1 h2
      obtain ⟨c0, c1, c2, la, lc, c3, hl3⟩ := h1
      obtain ⟨d0, d1, d2, ma, mc, d3, hm3⟩ := h2
      have hle : ls.length ≤ 800000 := HLL.out _ (List.mem_of_getElem? hp)
      have HC := fun d os => Calls.regrown_of (samePairs_any ls _ _ (grow (redrawn wr d) os) hle (hl3.grow (gTrans hB (below_regrown wr d os))) (hm3.grow (gTrans hB (below_regrown wr d os))))
      have s0 := fun d os => cell_regrown (gCell hB c0) d os
      have s1 := fun d os => cell_regrown (gCell hB c1) d os
      have s2 := fun d os => cell_regrown (gCell hB c2) d os
      have s3 := fun d os => cell_regrown (gCell hB c3) d os
      have u0 := fun d os => cell_regrown (gCell hB d0) d os
      have u1 := fun d os => cell_regrown (gCell hB d1) d os
      have u2 := fun d os => cell_regrown (gCell hB d2) d os
      have u3 := fun d os => cell_regrown (gCell hB d3) d os
      have hii : (i : Int) < (al.length : Int) := by omega
      have hll : i < al.length := hlt
      have HIG := Lib.hid hig
      have HBR := Lib.hid hB
      clear hB c0 c1 c2 c3 d0 d1 d2 d3 hR hR2 hig hp hl3 hm3 hle
      go_upto_region 6 with (fail)
      refine wp_region_quiet_below (by kernel_rfl) (by kernel_rfl) ?_
      repeat (go_big_quiet_step ((go_at_call 22; exact HC _ _)))
      refine wpQuiet_nil ?_
      rintro _ ⟨⟨dq, osq⟩, rfl⟩
      have HBQ := Lib.hid (gTrans HBR.out (below_regrown wr dq osq))
      clear HC s0 s1 s2 s3 u0 u1 u2 u3
      go_wp2
      go_roundg (gk - 1)
      case measure => have := HIG.out; omega
      case rel => exact ⟨i + 1, by have := HIG.out; omega, by simp, HBQ.out⟩
    · have HBR := Lib.hid hB
      clear hB
      go_wp2
      go_ret
      exact ⟨rfl, HBR.out⟩

theorem length_runA (txt set : Bool) (kk nn : Int) : ∀ (ss : List St) (vs : List (List Pr)), (runA txt set kk nn vs ss).length = ss.length
  | [], _ => rfl
  | s :: ss, vs => by rw [runA, List.length_cons, List.length_cons, length_runA]

/-- How long the lists of answers are. -/
theorem list_runA (txt set : Bool) (kk nn : Int) : ∀ (ss : List St) (vs : List (List Pr)) (N : Nat), (∀ l ∈ vs, l.length ≤ N) → ∀ an ∈ runA txt set kk nn vs ss, an.list.length ≤ N + wts ss
  | [], _, _, _, _, h => by cases h
  | s :: ss, vs, N, hv, an, h => by
    have hw : wts (s :: ss) = wt s + wts ss := by simp [wts]
    have hva : (verAt vs s.at_).length ≤ N := by
      unfold verAt
      cases hq : vs[(s.at_ % (vs.length : Int)).toNat]? with
      | none => exact Nat.zero_le _
      | some l => exact hv l (List.mem_of_getElem? hq)
    rw [runA] at h
    rcases List.mem_cons.1 h with rfl | h
    · rw [hw]
      unfold stepSays
      split
      · exact Nat.zero_le _
      · split
        · unfold stepLook
          split <;> exact Nat.zero_le _
        · split
          · simp only []; omega
          · split
            · simp only [List.length_reverse]; omega
            · exact Nat.zero_le _
    · have h2 := list_runA txt set kk nn ss _ (N + wt s) (fun l hl => ?_) an h
      · rw [hw]; omega
      · rcases List.mem_append.1 hl with hl | hl
        · have := hv l hl; omega
        · have hn := Option.mem_toList.1 hl
          have := len_next hn
          omega
end Go.Proofs.YtfejflhgaphilaaGreatDoor

/-
  THE WALK of the specification's iterator over pairs in order.
  LAWS of no program for the walks of iterators: worlds that are alike but for two blocks; three cells of a block that are set.
-/
import Derived.Test.YtfejflhgaphilaaGreatDoorWM
import Derived.Deep.CutBlock
import Derived.Test.YtfejflhgaphilaaGreatDoorWK
set_option linter.all false
set_option linter.unusedVariables false
set_option linter.unusedSimpArgs false
set_option linter.unusedSectionVars false
namespace Go.Proofs.YtfejflhgaphilaaGreatDoor
open Go.RowKit Go.Sort Lst

theorem infoW : (Tryz.prog.info? 58).map (fun i => (i.zero, i.size, i.bytes)) = some (some (.agg #[.int .i64 0, .string ⟨#[]⟩, .int .i64 0, .bool false, .bool false]), 5, 40) := by kernel_rfl

abbrev Mv.cells (m : Mv) : List Value := [.int .u8 m.op, .int .i64 m.key, .string m.text]
theorem len_mvc : ∀ m : Mv, m.cells.length = 3 := fun _ => rfl
abbrev mvs (l : List Mv) : List Value := l.flatMap Mv.cells
/-- The five cells of a move's answer. -/
abbrev wac (x : Pr × Bool × Bool) : List Value := [.int .i64 x.1.key, .string x.1.text, .int .i64 x.1.val, .bool x.2.1, .bool x.2.2]
theorem len_wac : ∀ x, (wac x).length = 5 := fun _ => rfl
abbrev was (l : List (Pr × Bool × Bool)) : List Value := l.flatMap wac
theorem oneWac (x : Pr × Bool × Bool) : ∀ v ∈ wac x, v.oneCell' = true := by
  intro v h
  simp only [List.mem_cons, List.not_mem_nil, or_false] at h
  rcases h with rfl | rfl | rfl | rfl | rfl <;> rfl

theorem Row.mv {w : World} {b o : Nat} {l : List Mv} (h : Row w b o (mvs l)) {i : Nat} {p : Mv} (hp : l[i]? = some p) :
    w.cell? ⟨b, o + i * 3, none⟩ = some (.int .u8 p.op) ∧ w.cell? ⟨b, o + i * 3 + 1, none⟩ = some (.int .i64 p.key) ∧ w.cell? ⟨b, o + i * 3 + 2, none⟩ = some (.string p.text) := by
  have h0 := h (i * 3 + 0) _ (flat_get len_mvc hp (by decide))
  have h1 := h (i * 3 + 1) _ (flat_get len_mvc hp (by decide))
  have h2 := h (i * 3 + 2) _ (flat_get len_mvc hp (by decide))
  rw [← Nat.add_assoc] at h0 h1 h2
  exact ⟨h0, h1, h2⟩

/-- A move as the guards let in. -/
structure MvOK (m : Mv) : Prop where
  lo : 0 ≤ m.op
  hi : m.op ≤ 4
  key : I64 m.key

def seekP (txt : Bool) (kk nn : Int) (L : List Pr) (m : Mv) : Nat := pos (fP txt kk nn ⟨m.key, m.text, 0⟩) L

/-- How far a walk has come. -/
structure WalkSo (seek : Mv → Nat) (L : List Pr) (t0 : Int) (ms : List Mv) (i : Nat) (t : Int) (outs : List (Pr × Bool × Bool)) : Prop where
  lo : -1 ≤ t
  hi : t < L.length
  len : outs.length = i
  run : walkRun seek L t0 ms = outs ++ walkRun seek L t (ms.drop i)

theorem land_range {n m : Nat} (h : n ≤ m) : -1 ≤ landP n m ∧ landP n m < m := by
  unfold landP
  split <;> omega

theorem move_range {seek n : Nat} {op t : Int} (hs : seek ≤ n) (h1 : -1 ≤ t) (h2 : t < n) : -1 ≤ moveAt seek n op t ∧ moveAt seek n op t < n := by
  unfold moveAt
  split
  · exact land_range (Nat.zero_le _)
  · split
    · omega
    · split
      · split
        · omega
        · exact land_range (by omega)
      · split
        · split <;> omega
        · exact land_range hs

theorem WalkSo.step {seek : Mv → Nat} {L : List Pr} {t0 t : Int} {ms : List Mv} {i : Nat} {outs : List (Pr × Bool × Bool)} {m : Mv} (h : WalkSo seek L t0 ms i t outs) (hm : ms[i]? = some m) (hs : seek m ≤ L.length) :
    WalkSo seek L t0 ms (i + 1) (moveAt (seek m) L.length m.op t) (outs ++ [moveSays L m.op t (moveAt (seek m) L.length m.op t)]) :=
  ⟨(move_range hs h.lo h.hi).1, (move_range hs h.lo h.hi).2, by simp [h.len], walk_step hm h.run⟩

theorem five_ops {op : Int} (h1 : 0 ≤ op) (h2 : op ≤ 4) : op = 0 ∨ op = 1 ∨ op = 2 ∨ op = 3 ∨ op = 4 := by omega

theorem box2 (w : World) (x : Obj) (cs : Array Value) (t : TypeId) : Whole ((w.alloc x).alloc (.cells cs t)) (w.heap.size + 1) cs.toList t := by
  have := box_news (w.alloc x) cs t
  rwa [alloc_sz] at this

theorem says_none {L : List Pr} {op t t' : Int} (h : ¬ ((op = 2 ∨ op = 3) ∧ 0 ≤ t)) : moveSays L op t t' = (pr0, false, decide (t' < 0)) := if_neg h
theorem says_some {L : List Pr} {op t' : Int} {n : Nat} {q : Pr} (h : op = 2 ∨ op = 3) (hq : L[n]? = some q) : moveSays L op n t' = (q, true, decide (t' < 0)) := by
  unfold moveSays
  rw [if_pos ⟨h, by omega⟩, Int.toNat_natCast, hq]
  rfl
theorem land_min (n : Nat) : min 0 ((n : Int) - 1) = landP 0 n := by
  unfold landP
  split <;> omega

/-- What a move leaves: the iterator at t', the answer's block A but for 'done'. -/
def Moves (wr : World) (L : List Pr) (A : Nat) (op t t' : Int) (wx : World) : Prop :=
  ∃ (q : Pr) (ok : Bool), Whole wx A [.int .i64 q.key, .string q.text, .int .i64 q.val, .bool ok, .bool false] 58 ∧ Below wr.heap.size wr wx ∧ moveSays L op t t' = (q, ok, decide (t' < 0))

set_option maxHeartbeats 8000000 in
set_option maxRecDepth 100000 in
theorem specWalk_any (txt : Bool) (kk nn : Int) (L : List Pr) (ms : List Mv) (sl msl : Value) (w : World) (hO : OrdOK kk nn) (hs : Srt (cmpP txt kk nn) L) (hL : ∀ p ∈ L, I64 p.key) (hms : ∀ m ∈ ms, MvOK m)
    (hlen : L.length ≤ 800000) (hlen2 : ms.length ≤ 800000) (hR : RowV w sl L.length (prs L)) (hRm : RowV w msl ms.length (mvs ms)) :
    Calls Tryz.prog 16 #[.bool txt, ordV kk nn, sl, msl] w fun e w' => ∃ v', e = .returned v' ∧ w'.ownsRow w.heap.size 58 5 v' ms.length (was (walkRun (seekP txt kk nn L) L (landP 0 L.length) ms)) ∧ Below w.heap.size w w' := by
  have hB := gNew w (.cells #[.int .u8 kk, .int .i64 nn] 23)
  have HPLACE : Hid (∀ (k : Pr) (W : World), I64 k.key → Below w.heap.size w W → Calls Tryz.prog 34 #[ordV kk nn, .bool txt, sl, k.v] W fun e w' => e = .returned (.tuple #[.int .i64 (pos (fP txt kk nn k) L), .bool (has (fP txt kk nn k) L)]) ∧ Below W.heap.size W w') :=
    fun k W hk hW => place_any txt kk nn L k sl W hO hs hL hk (by omega) (hR.grow hW)
  obtain ⟨a, cap, rfl, hcap, hrow⟩ := hR
  obtain ⟨am, capm, rfl, hcapm, hrowm⟩ := hRm
  have HROW := Lib.hid hrow
  have HROWM := Lib.hid hrowm
  have HMS := Lib.hid hms
  have HPOS : Hid (∀ m, seekP txt kk nn L m ≤ L.length) := fun m => pos_le _ _
  clear hrow hrowm hO hL hs hms
  have q0 : (w.alloc (.cells #[.int .u8 kk, .int .i64 nn] 23)).cell? ⟨w.heap.size, 0, none⟩ = some (.int .u8 kk) := by go_simp
  have q1 : (w.alloc (.cells #[.int .u8 kk, .int .i64 nn] 23)).cell? ⟨w.heap.size, 1, none⟩ = some (.int .i64 nn) := by go_simp
  have hw1 : w.heap.size + 1 ≤ (w.alloc (.cells #[.int .u8 kk, .int .i64 nn] 23)).heap.size := by rw [alloc_sz]; exact Nat.le_refl _
  have QS := Lib.hid (And.intro q0 (And.intro q1 hw1))
  have HB := Lib.hid hB
  clear hB q0 q1 hw1
  obtain ⟨i0, hi, hz0, hz1, hz2⟩ := info_parts infoW
  have hstart : ((L.length : Int) = 0 ∧ landP 0 L.length = -1) ∨ (((L.length : Int) == 0) = false ∧ landP 0 L.length = 0) := by
    unfold landP
    by_cases h : L.length = 0
    · exact .inl ⟨by omega, by rw [if_pos (by omega)]⟩
    · exact .inr ⟨beq_eq_false_iff_ne.2 (by omega), by rw [if_neg (by omega)]; rfl⟩
  go_enter Tryz.func16, Tryz.ntmps16
  go_upto_region 2 with (fail)
  generalize w.alloc (.cells #[.int .u8 kk, .int .i64 nn] 23) = wa at *
  have hstart2 : Hid (((L.length : Int) = 0 ∧ landP 0 L.length = -1) ∨ (((L.length : Int) == 0) = false ∧ landP 0 L.length = 0)) := hstart
  clear hstart
  go_upto_if 16 with (fail)
  go_cut [9] (fun s9 wx => s9 = .int .i64 (landP 0 L.length) ∧ wx = wa)
  case first =>
    rcases hstart2.out with ⟨h1, h2⟩ | ⟨h1, h2⟩
    all_goals
      have H2 := Lib.hid h2
      clear h2
      go_wp2_with fail
      go_meet
      exact ⟨by rw [H2.out], rfl⟩
  case rest =>
  obtain ⟨rfl, rfl⟩ := hcut
  have hl0 : -1 ≤ landP 0 L.length ∧ landP 0 L.length < L.length := land_range (Nat.zero_le _)
  generalize hT0 : landP 0 L.length = t0 at *
  have HT0 := Lib.hid hT0
  clear hT0 hstart2
  go_upto_region 6 with (fail)
  go_loopg [9, 10, 19] ms.length (fun g s9 s10 s19 wr => ∃ (i : Nat) (t : Int) (outs : List (Pr × Bool × Bool)), i + g = ms.length ∧ s9 = .int .i64 t ∧ s19 = .int .i64 i ∧ WalkSo (seekP txt kk nn L) L t0 ms i t outs ∧ wr.ownsRow (w.heap.size + 1) 58 5 s10 outs.length (was outs) ∧ Below (w.heap.size + 1) wc wr)
  case atStart => exact ⟨0, t0, [], by omega, rfl, rfl, ⟨hl0.1, hl0.2, rfl, rfl⟩, World.ownsRow_nil _ _ _ _, Below.refl _ _⟩
  case round =>
    obtain ⟨i, t, outs, hig, rfl, rfl, hso, hown, hB⟩ := hrel
    have hlt' : i < ms.length ∨ i = ms.length := by omega
    rcases hlt' with hlt | rfl
    · obtain ⟨b, o, rfl, hR⟩ := HROWM.out (by omega)
      obtain ⟨⟨op, mk, mt⟩, hp⟩ : ∃ m, ms[i]? = some m := ⟨_, List.getElem?_eq_getElem hlt⟩
      have hc := hR.mv hp
      dsimp only at hc
      obtain ⟨c0, c1, c2⟩ := hc
      obtain ⟨q0, q1, hw1⟩ := QS.out
      have hwr : w.heap.size + 1 ≤ wr.heap.size := Nat.le_trans hw1 hB.size
      have hBw : Below w.heap.size w wr := HB.out.trans (hB.mono (by omega))
      have r0 := (hB.cell (p := ⟨w.heap.size, 0, none⟩) (by show w.heap.size < w.heap.size + 1; omega)).trans q0
      have r1 := (hB.cell (p := ⟨w.heap.size, 1, none⟩) (by show w.heap.size < w.heap.size + 1; omega)).trans q1
      have s0 := gCell hBw c0
      have s1 := gCell hBw c1
      have s2 := gCell hBw c2
      have HM : Hid (0 ≤ op ∧ op ≤ 4 ∧ I64 mk) := let h := HMS.out ⟨op, mk, mt⟩ (List.mem_of_getElem? hp); ⟨h.lo, h.hi, h.key⟩
      have hii : (i : Int) < (ms.length : Int) := by omega
      have HBR := Lib.hid hB
      have HBW := Lib.hid hBw
      have HSO := Lib.hid hso
      have HOWN := Lib.hid hown
      have HWR := Lib.hid hwr
      have HIG := Lib.hid hig
      have htr : t = -1 ∨ ∃ n : Nat, t = n ∧ n < L.length := by
        have h1 := hso.lo
        have h2 := hso.hi
        by_cases h : t < 0
        · exact .inl (by omega)
        · exact .inr ⟨t.toNat, by omega, by omega⟩
      have HTR := Lib.hid htr
      have hb2 := gNew2 wr (.cells #[.int .u8 op, .int .i64 mk, .string mt] 45) (.cells #[.int .i64 0, .string ⟨#[]⟩, .int .i64 0, .bool false, .bool false] 58)
      have HB2 := Lib.hid hb2
      have y0 := gCell hb2 r0
      have y1 := gCell hb2 r1
      have HPL : Hid (∀ W, Below w.heap.size w W → Calls Tryz.prog 34 #[ordV kk nn, .bool txt, .slice a L.length cap, .agg #[.int .i64 mk, .string mt, .int .i64 0]] W fun e w' => e = .returned (.tuple #[.int .i64 (seekP txt kk nn L ⟨op, mk, mt⟩), .bool (has (fP txt kk nn ⟨mk, mt, 0⟩) L)]) ∧ Below W.heap.size W w') := fun W hW => HPLACE.out ⟨mk, mt, 0⟩ W HM.out.2.2 hW
      have HSTEP : Hid (∀ d, moveSays L op t (moveAt (seekP txt kk nn L ⟨op, mk, mt⟩) L.length op t) = d → WalkSo (seekP txt kk nn L) L t0 ms (i + 1) (moveAt (seekP txt kk nn L ⟨op, mk, mt⟩) L.length op t) (outs ++ [d])) := by
        intro d hd
        rw [← hd]
        exact HSO.out.step hp (HPOS.out _)
      have HSK := Lib.hid (HPOS.out ⟨op, mk, mt⟩)
      clear hB hBw c0 c1 c2 hR q0 q1 hw1 hso hown hwr hb2 hp htr
      generalize seekP txt kk nn L ⟨op, mk, mt⟩ = sk at *
      generalize has (fP txt kk nn ⟨mk, mt, 0⟩) L = hsd at *
      go_upto_block 2 with (fail)
      clear s0 s1 s2 r0 r1
      go_cut [9] (fun s9 wy => s9 = .int .i64 (moveAt sk L.length op t) ∧ Moves wr L (wr.heap.size + 1) op t (moveAt sk L.length op t) wy)
      case first =>
        rcases five_ops HM.out.1 HM.out.2.1 with rfl | rfl | rfl | rfl | rfl
        · go_wp2_with fail
          go_meet
          exact ⟨by rw [land_min]; rfl, pr0, false, box2 _ _ _ _, gNew2 _ _ _, says_none (by omega)⟩
        · go_wp2_with fail
          go_meet
          exact ⟨rfl, pr0, false, box2 _ _ _ _, gNew2 _ _ _, says_none (by omega)⟩
        · rcases HTR.out with rfl | ⟨n, rfl, hn⟩
          · go_wp2_with fail
            go_meet
            exact ⟨rfl, pr0, false, box2 _ _ _ _, gNew2 _ _ _, says_none (by omega)⟩
          · obtain ⟨b', o', rfl, hR'⟩ := HROW.out (by omega)
            obtain ⟨q, hq⟩ : ∃ q, L[n]? = some q := ⟨_, List.getElem?_eq_getElem hn⟩
            obtain ⟨d0, d1, d2⟩ := hR'.pr hq
            have e0 := gCell HB2.out (gCell HBW.out d0)
            have e1 := gCell HB2.out (gCell HBW.out d1)
            have e2 := gCell HB2.out (gCell HBW.out d2)
            have hni : (n : Int) < (L.length : Int) := by omega
            have HQ := Lib.hid hq
            clear d0 d1 d2 hR' hq
            have hend : Hid (((n : Int) + 1 = (L.length : Int) ∧ moveAt sk L.length 2 n = -1) ∨ (((n : Int) + 1 == (L.length : Int)) = false ∧ moveAt sk L.length 2 n = (n : Int) + 1)) := by
              have e : moveAt sk L.length 2 n = landP (n + 1) L.length := by
                unfold moveAt
                rw [if_neg (by decide), if_neg (by decide), if_pos rfl, if_neg (by omega), Int.toNat_natCast]
              show _ ∨ _
              rw [e]
              unfold landP
              by_cases h : n + 1 = L.length
              · exact .inl ⟨by omega, if_pos h⟩
              · exact .inr ⟨beq_eq_false_iff_ne.2 (by omega), if_neg h⟩
            rcases hend.out with ⟨h1, h2⟩ | ⟨h1, h2⟩
            · have H2 := Lib.hid h2
              clear h2
              go_wp2_with fail
              go_meet
              refine ⟨by rw [H2.out], q, true, box2 _ _ _ _, gNew2 _ _ _, says_some (.inl rfl) HQ.out⟩
            · have H2 := Lib.hid h2
              clear h2
              go_wp2_with fail
              go_meet
              refine ⟨by rw [H2.out], q, true, box2 _ _ _ _, gNew2 _ _ _, says_some (.inl rfl) HQ.out⟩
        · rcases HTR.out with rfl | ⟨n, rfl, hn⟩
          · go_wp2_with fail
            go_meet
            exact ⟨rfl, pr0, false, box2 _ _ _ _, gNew2 _ _ _, says_none (by omega)⟩
          · obtain ⟨b', o', rfl, hR'⟩ := HROW.out (by omega)
            obtain ⟨q, hq⟩ : ∃ q, L[n]? = some q := ⟨_, List.getElem?_eq_getElem hn⟩
            obtain ⟨d0, d1, d2⟩ := hR'.pr hq
            have e0 := gCell HB2.out (gCell HBW.out d0)
            have e1 := gCell HB2.out (gCell HBW.out d1)
            have e2 := gCell HB2.out (gCell HBW.out d2)
            have hni : (n : Int) < (L.length : Int) := by omega
            have hne : ((n : Int) - 1 == (L.length : Int)) = false := beq_eq_false_iff_ne.2 (by omega)
            have HQ := Lib.hid hq
            clear d0 d1 d2 hR' hq
            have H2 : Hid (moveAt sk L.length 3 n = (n : Int) - 1) := by
              show _ = _
              unfold moveAt
              rw [if_neg (by decide), if_neg (by decide), if_neg (by decide), if_pos rfl, if_neg (by omega)]
            go_wp2_with fail
            go_meet
            refine ⟨by rw [H2.out], q, true, box2 _ _ _ _, gNew2 _ _ _, says_some (.inr rfl) HQ.out⟩
        · have hend : Hid (((sk : Int) = (L.length : Int) ∧ moveAt sk L.length 4 t = -1) ∨ (((sk : Int) == (L.length : Int)) = false ∧ moveAt sk L.length 4 t = (sk : Int))) := by
            have e : moveAt sk L.length 4 t = landP sk L.length := by
              unfold moveAt
              rw [if_neg (by decide), if_neg (by decide), if_neg (by decide), if_neg (by decide)]
            show _ ∨ _
            rw [e]
            unfold landP
            by_cases h : sk = L.length
            · exact .inl ⟨by omega, if_pos h⟩
            · exact .inr ⟨beq_eq_false_iff_ne.2 (by omega), if_neg h⟩
          rcases hend.out with ⟨h1, h2⟩ | ⟨h1, h2⟩
          · have H2 := Lib.hid h2
            clear h2
            have hskl : sk = L.length := by omega
            subst hskl
            clear h1
            go_wp2_with (go_at_call 34; refine (HPL.out _ (gTrans HBW.out HB2.out)).mono ?_; rintro e w5 ⟨rfl, hB5⟩)
            go_meet
            exact ⟨by rw [H2.out], pr0, false, (box2 _ _ _ _).grow hB5, gTrans HB2.out hB5, says_none (by omega)⟩
          · have H2 := Lib.hid h2
            clear h2
            go_wp2_with (go_at_call 34; refine (HPL.out _ (gTrans HBW.out HB2.out)).mono ?_; rintro e w5 ⟨rfl, hB5⟩)
            go_meet
            exact ⟨by rw [H2.out], pr0, false, (box2 _ _ _ _).grow hB5, gTrans HB2.out hB5, says_none (by omega)⟩
      case rest =>
      obtain ⟨rfl, q, ok, hW, hBx, hsay⟩ := hcut
      have HWS := Lib.hid (HSTEP.out _ hsay)
      clear hsay HSTEP HPL y0 y1
      generalize moveAt sk L.length op t = t' at *
      have q0 := hW.cell (j := 0) rfl
      have q1 := hW.cell (j := 1) rfl
      have q2 := hW.cell (j := 2) rfl
      have q3 := hW.cell (j := 3) rfl
      have q4 := hW.cell (j := 4) rfl
      have f4 := hW.frozen 4
      obtain ⟨hW2, hU2⟩ := whole_set hW (.bool (decide (t' < 0))) (i := 4) (by simp)
      have HW2 : Hid (Whole (wc.setCell ⟨wr.heap.size + 1, 4, none⟩ (.bool (decide (t' < 0)))) (wr.heap.size + 1) (wac (q, ok, decide (t' < 0))) 58) := hW2
      have HU2 := Lib.hid hU2
      have HBX := Lib.hid hBx
      clear hW hW2 hU2 hBx
      go_upto_region 28 with (fail)
      clear q0 q1 q2 q3 q4 f4
      generalize wc.setCell ⟨wr.heap.size + 1, 4, none⟩ (.bool (decide (t' < 0))) = w2 at *
      generalize hdd : decide (t' < 0) = dn at *
      have z0 := HW2.out.cell (j := 0) rfl
      have z1 := HW2.out.cell (j := 1) rfl
      have z2 := HW2.out.cell (j := 2) rfl
      have z3 := HW2.out.cell (j := 3) rfl
      have z4 := HW2.out.cell (j := 4) rfl
      have hby : wr.grownBy w2 (some (wr.heap.size + 1)) := below_upd_by HBX.out HU2.out
      have hlt := HOWN.out.lt
      have ho2 := HOWN.out.kept hby (by
        cases hv : Value.ownBlock _ with
        | none => exact .inl rfl
        | some k => exact .inr (by intro e; injection e with e; have := (hlt k hv).2; omega))
      have hb2 : Below (w.heap.size + 1) wr w2 := below_upd (HBX.out.mono HWR.out) HU2.out (by have := HWR.out; omega)
      have HB3 := Lib.hid (HBR.out.trans (hb2.trans ((gNew w2 (.cells (wac (q, ok, dn)).toArray 58)).mono (Nat.le_trans HWR.out hb2.size))))
      have HO3 := Lib.hid (ho2.kept (below_by (g := none) (gNew w2 (.cells (wac (q, ok, dn)).toArray 58))) (by cases Value.ownBlock _ <;> simp))
      have HN := Lib.hid (news_of (box_news w2 (wac (q, ok, dn)).toArray 58))
      have hbase : w.heap.size + 1 ≤ (w2.alloc (.cells (wac (q, ok, dn)).toArray 58)).heap.size := by rw [alloc_sz]; have := HWR.out; have := hb2.size; omega
      have HBASE := Lib.hid hbase
      have HLEN : Hid (outs.length + 1 ≤ 1000000) := by have h1 := HSO.out.len; have h2 := HIG.out; show _ ≤ _; omega
      have HMX : Hid (outs.length + 1 ≤ maxLen) := by show _ ≤ _; simp only [maxLen]; have := HLEN.out; omega
      have HBY : Hid ((outs.length + 1) * 40 ≤ 140737488355328) := by show _ ≤ _; have := HLEN.out; omega
      clear hby hlt ho2 hb2 hbase
      go_wp2_with ((with_reducible refine at_slot 83 ?_); refine wpList_append_moved _ rfl _ _ 50 rfl (w.heap.size + 1) 58 i0 _ 5 40 Tryz.underlying50 hi hz0 hz1 hz2 rfl (by omega) _ outs.length (was outs) (by rfl) HO3.out ⟨w2.heap.size, 0, none⟩ 1 1 (wac (q, ok, dn)) (by rfl) rfl HN.out (oneWac _) HMX.out HBY.out HBASE.out ?_; intro v3 w3 hown3 hg3 hm3)
      have hl3 := HO3.out.lt
      have HLT := Lib.hid hl3
      clear hl3
      go_roundg (gk - 1)
      case measure => have := HIG.out; omega
      case rel =>
        have hig := HIG.out
        have hb4 := HB3.out.grown hg3 HBASE.out (fun k hk => (HLT.out k hk).1)
        refine ⟨i + 1, t', outs ++ [(q, ok, dn)], by omega, rfl, by simp, HWS.out, ?_, hb4⟩
        rw [List.length_append]
        simp only [was, List.flatMap_append, List.flatMap_cons, List.flatMap_nil, List.append_nil]
        exact hown3
    · have HE := Lib.hid (walk_end (Nat.le_refl _) hso.run)
      have HB2 := Lib.hid (HB.out.trans (hB.mono (Nat.le_succ _)))
      have HOWN := Lib.hid hown
      have HLN := Lib.hid hso.len
      clear hso hB hown
      go_wp2
      go_ret
      rw [HT0.out, ← HE.out, ← HLN.out]
      exact ⟨_, rfl, own_base HOWN.out (Nat.le_succ _), HB2.out⟩
end Go.Proofs.YtfejflhgaphilaaGreatDoor

namespace Go.Proofs.YtfejflhgaphilaaGreatDoor
open Go.RowKit Go.Sort Lst

/-- Below B all is as it was, but for the blocks i and j. -/
structure But (B i j : Nat) (w w' : World) : Prop where
  os : w'.os = w.os
  tape : w'.tape = w.tape
  output : w'.output = w.output
  size : w.heap.size ≤ w'.heap.size
  block : ∀ k, k < B → k ≠ i → k ≠ j → w'.heap[k]? = w.heap[k]?

theorem But.refl (B i j : Nat) (w : World) : But B i j w w := ⟨rfl, rfl, rfl, Nat.le_refl _, fun _ _ _ _ => rfl⟩
theorem But.trans {B i j : Nat} {a b c : World} (h : But B i j a b) (k : But B i j b c) : But B i j a c :=
  ⟨k.os.trans h.os, k.tape.trans h.tape, k.output.trans h.output, Nat.le_trans h.size k.size, fun x hx h1 h2 => (k.block x hx h1 h2).trans (h.block x hx h1 h2)⟩
theorem But.mono {B B' i j : Nat} {a b : World} (h : But B i j a b) (hB : B' ≤ B) : But B' i j a b := ⟨h.os, h.tape, h.output, h.size, fun x hx => h.block x (Nat.lt_of_lt_of_le hx hB)⟩
theorem But.of_below {B i j : Nat} {a b : World} (h : Below B a b) : But B i j a b := ⟨h.os, h.tape, h.output, h.size, fun x hx _ _ => h.block x hx⟩
theorem But.of_left {B i j : Nat} {a b : World} (h : a.grownBy b (some i)) (hB : B ≤ a.heap.size) : But B i j a b := ⟨h.os, h.tape, h.output, h.size, fun x hx h1 _ => h.block x (Nat.lt_of_lt_of_le hx hB) (fun e => h1 (by injection e))⟩
theorem But.of_right {B i j : Nat} {a b : World} (h : a.grownBy b (some j)) (hB : B ≤ a.heap.size) : But B i j a b := ⟨h.os, h.tape, h.output, h.size, fun x hx _ h1 => h.block x (Nat.lt_of_lt_of_le hx hB) (fun e => h1 (by injection e))⟩
theorem But.of_row {B i j : Nat} {v : Value} {a b : World} (h : a.grownBy b v.ownBlock) (hB : B ≤ a.heap.size) (hv : ∀ k, v.ownBlock = some k → B ≤ k) : But B i j a b :=
  ⟨h.os, h.tape, h.output, h.size, fun x hx _ _ => h.block x (Nat.lt_of_lt_of_le hx hB) (fun e => by have := hv x e.symm; omega)⟩
theorem But.of_upd {B i j g : Nat} {a b : World} (h : Upd g a b) (hg : B ≤ g) : But B i j a b := ⟨h.by_.os, h.by_.tape, h.by_.output, by rw [h.size]; exact Nat.le_refl _, fun x hx _ _ => h.heap (by omega)⟩
theorem But.cell {B i j : Nat} {a b : World} (h : But B i j a b) {p : Addr} {v : Value} (hp : p.block < B) (h1 : p.block ≠ i) (h2 : p.block ≠ j) (hc : a.cell? p = some v) : b.cell? p = some v := cell_block (h.block _ hp h1 h2) hc
theorem But.row {B i j M : Nat} {a b : World} (h : But B i j a b) {e : TypeId} {size : Nat} {v : Value} {n : Nat} {xs : List Value} (ho : a.ownsRow M e size v n xs) (hB : a.heap.size ≤ B) (hi : i < M) (hj : j < M) : b.ownsRow M e size v n xs := by
  have hl := ho.lt
  refine ⟨ho.1, ho.2.imp id ?_⟩
  rintro ⟨g, cap, cur, rfl, hb, hg, rest⟩
  have := hl g rfl
  exact ⟨g, cap, cur, rfl, hb, (h.block g (by omega) (by omega) (by omega)).trans hg, rest⟩

theorem but_left {i j : Nat} {a b c : World} (h : But a.heap.size i j a b) (k : b.grownBy c (some i)) : But a.heap.size i j a c := h.trans (But.of_left k h.size)
theorem but_right {i j : Nat} {a b c : World} (h : But a.heap.size i j a b) (k : b.grownBy c (some j)) : But a.heap.size i j a c := h.trans (But.of_right k h.size)
theorem but_below {i j : Nat} {a b c : World} (h : But a.heap.size i j a b) (k : Below b.heap.size b c) : But a.heap.size i j a c := h.trans (But.of_below (k.mono h.size))
theorem but_upd {i j g : Nat} {a b c : World} (h : But a.heap.size i j a b) (k : Upd g b c) (hg : a.heap.size ≤ g) : But a.heap.size i j a c := h.trans (But.of_upd k hg)

theorem whole_set3 {w : World} {g : Nat} {a0 a1 a2 a3 a4 : Value} {t : TypeId} (h : Whole w g [a0, a1, a2, a3, a4] t) (x y z : Value) :
    Whole (((w.setCell ⟨g, 0, none⟩ x).setCell ⟨g, 1, none⟩ y).setCell ⟨g, 2, none⟩ z) g [x, y, z, a3, a4] t ∧ Upd g w (((w.setCell ⟨g, 0, none⟩ x).setCell ⟨g, 1, none⟩ y).setCell ⟨g, 2, none⟩ z) := by
  obtain ⟨h1, u1⟩ := whole_set h x (i := 0) (by simp)
  obtain ⟨h2, u2⟩ := whole_set h1 y (i := 1) (by simp)
  obtain ⟨h3, u3⟩ := whole_set h2 z (i := 2) (by simp)
  exact ⟨h3, (u1.trans u2).trans u3⟩

/-- How far pairs were put. -/
structure PutQ (txt : Bool) (kk nn : Int) (qs : List Pr) (i : Nat) (l : List Pr) : Prop where
  len : l.length ≤ i
  run : putAll txt kk nn qs [] = putAll txt kk nn (qs.drop i) l
theorem PutQ.start (txt : Bool) (kk nn : Int) (qs : List Pr) : PutQ txt kk nn qs 0 [] := ⟨Nat.le_refl _, rfl⟩
theorem PutQ.step {txt : Bool} {kk nn : Int} {qs : List Pr} {i : Nat} {l : List Pr} {q : Pr} (h : PutQ txt kk nn qs i l) (hq : qs[i]? = some q) : PutQ txt kk nn qs (i + 1) (ins (fP txt kk nn q) q l) :=
  ⟨by rw [length_ins]; have := h.len; split <;> omega, putAll_step hq h.run⟩
end Go.Proofs.YtfejflhgaphilaaGreatDoor

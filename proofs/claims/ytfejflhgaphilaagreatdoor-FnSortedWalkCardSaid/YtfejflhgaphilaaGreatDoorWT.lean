/-
  THE WALK of the law FnSortedWalk.
-/
import Derived.Test.YtfejflhgaphilaaGreatDoorWS
import Derived.Test.YtfejflhgaphilaaGreatDoorWP
set_option linter.all false
set_option linter.unusedVariables false
set_option linter.unusedSimpArgs false
set_option linter.unusedSectionVars false
namespace Go.Proofs.YtfejflhgaphilaaGreatDoor
open Go.RowKit Go.Sort Lst

theorem infoV : (Tryz.prog.info? 46).map (fun i => (i.zero, i.size, i.bytes)) = some (some (.agg #[.int .u8 0, .int .i64 0, .string ⟨#[]⟩]), 3, 32) := by kernel_rfl
theorem oneMv (m : Mv) : ∀ v ∈ m.cells, v.oneCell' = true := by
  intro v h
  simp only [List.mem_cons, List.not_mem_nil, or_false] at h
  rcases h with rfl | rfl | rfl <;> rfl

theorem mem_putAll {txt : Bool} {kk nn : Int} : ∀ (qs : List Pr) {l : List Pr} {q : Pr}, q ∈ putAll txt kk nn qs l → q ∈ qs ∨ q ∈ l
  | [], _, _, h => .inr h
  | k :: qs, l, q, h => by
    rcases mem_putAll qs (l := ins (fP txt kk nn k) k l) h with h | h
    · exact .inl (List.mem_cons_of_mem _ h)
    · rcases mem_insP h with rfl | h
      · exact .inl List.mem_cons_self
      · exact .inr h

theorem walkL_srt (txt set : Bool) (kk nn : Int) (ps : List Pr) : Srt (cmpP txt kk nn) (walkL txt set kk nn ps) := srt_putAll _ List.Pairwise.nil
theorem walkL_key {txt set : Bool} {kk nn : Int} {ps : List Pr} (h : ∀ p ∈ ps, I64 p.key) : ∀ p ∈ walkL txt set kk nn ps, I64 p.key := by
  intro p hp
  rcases mem_putAll _ hp with hp | hp
  · obtain ⟨q, hq, rfl⟩ := List.mem_map.1 hp
    have := key_keyP (txt := txt) (h q hq)
    cases set
    · exact this
    · exact this
  · cases hp
theorem walkL_len (txt set : Bool) (kk nn : Int) (ps : List Pr) : (walkL txt set kk nn ps).length ≤ ps.length := by
  have := len_putAll (txt := txt) (kk := kk) (nn := nn) (ps.map fun p => zeroP set (keyP txt p)) (l := [])
  unfold walkL
  simpa using this
theorem walkL_map (txt : Bool) (kk nn : Int) (ps : List Pr) : walkL txt false kk nn ps = putAll txt kk nn (ps.map (keyP txt)) [] := rfl
theorem walkL_set (txt : Bool) (kk nn : Int) (ps : List Pr) : walkL txt true kk nn ps = (putAll txt kk nn (ps.map (keyP txt)) []).map (zeroP true) := by
  rw [putAll_zero]
  unfold walkL
  rw [List.map_map]
  rfl

theorem Row.wa {w : World} {b o : Nat} {l : List (Pr × Bool × Bool)} (h : Row w b o (was l)) {i : Nat} {x : Pr × Bool × Bool} (hx : l[i]? = some x) :
    w.cell? ⟨b, o + i * 5, none⟩ = some (.int .i64 x.1.key) ∧ w.cell? ⟨b, o + i * 5 + 1, none⟩ = some (.string x.1.text) ∧ w.cell? ⟨b, o + i * 5 + 2, none⟩ = some (.int .i64 x.1.val) ∧ w.cell? ⟨b, o + i * 5 + 3, none⟩ = some (.bool x.2.1) ∧ w.cell? ⟨b, o + i * 5 + 4, none⟩ = some (.bool x.2.2) := by
  have h0 := h (i * 5 + 0) _ (flat_get len_wac hx (by decide))
  have h1 := h (i * 5 + 1) _ (flat_get len_wac hx (by decide))
  have h2 := h (i * 5 + 2) _ (flat_get len_wac hx (by decide))
  have h3 := h (i * 5 + 3) _ (flat_get len_wac hx (by decide))
  have h4 := h (i * 5 + 4) _ (flat_get len_wac hx (by decide))
  rw [← Nat.add_assoc] at h0 h1 h2 h3 h4
  exact ⟨h0, h1, h2, h3, h4⟩

theorem set_zero (A B : List Pr) (p : Pr) (tl : List Value) : (prs (A ++ p :: B) ++ tl).set (A.length * 3 + 2) (.int .i64 0) = prs (A ++ zeroP true p :: B) ++ tl := by
  have e : prs (A ++ p :: B) ++ tl = prs A ++ (.int .i64 p.key :: .string p.text :: .int .i64 p.val :: (prs B ++ tl)) := by simp [prs, List.flatMap_append]
  have e2 : prs (A ++ zeroP true p :: B) ++ tl = prs A ++ (.int .i64 p.key :: .string p.text :: .int .i64 0 :: (prs B ++ tl)) := by simp [prs, List.flatMap_append, zeroP]
  have h1 : (prs A).length = A.length * 3 := len_prs A
  rw [e, e2, List.set_append_right _ _ (by omega), h1, Nat.add_sub_cancel_left]
  rfl

set_option maxHeartbeats 8000000 in
set_option maxRecDepth 100000 in
theorem fnWalk (txt set : Bool) (kk nn : Int) (hk0 : 0 ≤ kk) (ps : List Pr) (ms : List Mv) (psl msl : Value) (w : World) (hps : ∀ p ∈ ps, I64 p.key) (hms : ∀ m ∈ ms, 0 ≤ m.op ∧ I64 m.key) (hR : RowV w psl ps.length (prs ps)) (hRm : RowV w msl ms.length (mvs ms)) :
    Calls Tryz.prog 4 #[.bool txt, .bool set, ordV kk nn, psl, msl] w fun e w' => e = .returned (.bool true) ∧ Below w.heap.size w w' := by
  have HB := Lib.hid (gNew w (.cells #[.int .u8 kk, .int .i64 nn] 23))
  have q0 : (w.alloc (.cells #[.int .u8 kk, .int .i64 nn] 23)).cell? ⟨w.heap.size, 0, none⟩ = some (.int .u8 kk) := by go_simp
  have q1 : (w.alloc (.cells #[.int .u8 kk, .int .i64 nn] 23)).cell? ⟨w.heap.size, 1, none⟩ = some (.int .i64 nn) := by go_simp
  have hw1 : (w.alloc (.cells #[.int .u8 kk, .int .i64 nn] 23)).heap.size = w.heap.size + 1 := alloc_sz _ _
  have QS := Lib.hid (And.intro q0 (And.intro q1 hw1))
  have HRP := Lib.hid hR
  have HRM := Lib.hid hRm
  have HPS := Lib.hid hps
  have HMS := Lib.hid hms
  obtain ⟨pa, pc, rfl, hpc, hprow⟩ := hR
  obtain ⟨ma, mc, rfl, hmc, hmrow⟩ := hRm
  have HMROW := Lib.hid hmrow
  clear hps hms hprow hmrow hw1
  go_enter Tryz.func4, Tryz.ntmps4
  go_upto_region 1 with (fail)
  generalize w.alloc (.cells #[.int .u8 kk, .int .i64 nn] 23) = wa at *
  go_cut [28] (fun s28 wx => ∃ z : Bool, s28 = .bool z ∧ (z = false → ps.length ≤ 2147483647 ∧ ms.length ≤ 2147483647) ∧ Below wa.heap.size wa wx)
  case first =>
    have H6 := Lib.hid (fits6 ps _ wa (HRP.out.grow HB.out))
    go_wp2_with (go_at_call 12; refine H6.out.mono ?_; rintro e w1 ⟨⟨z1, rfl, hz1⟩, hB1⟩; cases z1)
    · go_meet
      exact ⟨true, rfl, fun h => (by cases h), hB1⟩
    · have HZ1 : Hid (ps.length ≤ 2147483647) := hz1 (by simp)
      have HB1 := Lib.hid hB1
      have H8 := Lib.hid (fits8 ms _ w1 (HRM.out.grow (gTrans HB.out hB1)))
      clear hz1 hB1
      go_wp2_with (go_at_call 13; refine H8.out.mono ?_; rintro e w2 ⟨⟨z2, rfl, hz2⟩, hB2⟩; cases z2)
      · go_meet
        exact ⟨true, rfl, fun h => (by cases h), gTrans HB1.out hB2⟩
      · have HZ2 : Hid (ms.length ≤ 2147483647) := hz2 (by simp)
        clear hz2
        go_meet
        exact ⟨false, rfl, fun _ => ⟨HZ1.out, HZ2.out⟩, gTrans HB1.out hB2⟩
  case rest =>
  obtain ⟨z, rfl, hz, hBz⟩ := hcut
  cases z
  case true =>
    have HBZ := Lib.hid (gTrans HB.out hBz)
    clear hz hBz q0 q1
    go_wp2
    go_ret
    exact ⟨rfl, HBZ.out⟩
  have HZZ : Hid (ps.length ≤ 2147483647 ∧ ms.length ≤ 2147483647) := hz (by simp)
  have r0 := gCell hBz q0
  have r1 := gCell hBz q1
  have HBZ := Lib.hid hBz
  have HBZ' := Lib.hid hBz
  clear hz hBz q0 q1
  go_upto_region 3 with (fail)
  go_cut [37] (fun s37 wx => ∃ z : Bool, s37 = .bool z ∧ (z = false → OrdOK kk nn ∧ ps.length ≤ 1000 ∧ ms.length ≤ 200) ∧ Below wc.heap.size wc wx)
  case first =>
    have HPR := Lib.hid (pairsRight_any kk nn hk0 ps _ wc (HRP.out.grow (gTrans HB.out HBZ.out)))
    by_cases hm : (200 : Int) < ms.length
    · go_wp2_with (go_at_call 14; refine HPR.out.mono ?_; rintro e w1 ⟨⟨z1, rfl, hz1⟩, hB1⟩; cases z1)
      · go_meet
        exact ⟨true, rfl, fun h => (by cases h), hB1⟩
      · clear hz1
        try go_wp2_with fail
        go_meet
        exact ⟨true, by first | rfl | simp [hm], fun h => (by cases h), hB1⟩
    · have hdb : decide ((200 : Int) < ms.length) = false := decide_eq_false hm
      have HML : Hid (ms.length ≤ 200) := by show _ ≤ _; omega
      go_wp2_with (go_at_call 14; refine HPR.out.mono ?_; rintro e w1 ⟨⟨z1, rfl, hz1⟩, hB1⟩; cases z1)
      · go_meet
        exact ⟨true, rfl, fun h => (by cases h), hB1⟩
      · have HZ1 : Hid (OrdOK kk nn ∧ ps.length ≤ 1000) := hz1 (by simp)
        clear hz1
        try go_wp2_with fail
        go_meet
        exact ⟨false, by first | rfl | rw [hdb], fun _ => ⟨HZ1.out.1, HZ1.out.2, HML.out⟩, hB1⟩
  case rest =>
  obtain ⟨z, rfl, hz, hBz⟩ := hcut
  have r0 := gCell hBz r0
  have r1 := gCell hBz r1
  have HBZ := Lib.hid (gTrans (gTrans HB.out HBZ.out) hBz)
  have hM : w.heap.size + 1 ≤ wc.heap.size := by have h1 := QS.out.2.2; have h2 := (gTrans HBZ'.out hBz).size; omega
  cases z
  case true =>
    clear hz hBz r0 r1 hM
    go_wp2_with (go_at_call 7; refine (awake_any _).mono ?_; rintro e w5 ⟨rfl, hB5⟩)
    go_ret
    exact ⟨rfl, gTrans HBZ.out hB5⟩
  have HZ : Hid (OrdOK kk nn ∧ ps.length ≤ 1000 ∧ ms.length ≤ 200) := hz (by simp)
  have HR01 := Lib.hid (And.intro r0 r1)
  have hm200 : ms.length ≤ 200 := HZ.out.2.2
  obtain ⟨iv, hiv, hv0, hv1, hv2⟩ := info_parts infoV
  clear hz hBz r0 r1
  go_upto_region 7 with (fail)
  go_loopg [11, 41] ms.length (fun g s11 s41 wr => ∃ (i : Nat), i + g = ms.length ∧ s41 = .int .i64 i ∧ wr.ownsRow wc.heap.size 46 3 s11 i (mvs (ms.take i)) ∧ (∀ m ∈ ms.take i, m.op ≤ 4) ∧ Below wc.heap.size wc wr)
  case atStart => exact ⟨0, by omega, rfl, World.ownsRow_nil _ _ _ _, fun m h => (by simp at h), Below.refl _ _⟩
  case round =>
    obtain ⟨i, hig, rfl, hown, hop, hB⟩ := hrel
    have hlt' : i < ms.length ∨ i = ms.length := by omega
    rcases hlt' with hlt | rfl
    · obtain ⟨b, o, rfl, hR⟩ := HMROW.out (by omega)
      obtain ⟨⟨op, mk, mt⟩, hp⟩ : ∃ m, ms[i]? = some m := ⟨_, List.getElem?_eq_getElem hlt⟩
      have hc := hR.mv hp
      dsimp only at hc
      obtain ⟨c0, c1, c2⟩ := hc
      have hBw := gTrans HBZ.out hB
      have s0 := gCell hBw c0
      have s1 := gCell hBw c1
      have s2 := gCell hBw c2
      have hii : (i : Int) < (ms.length : Int) := by omega
      have HIG := Lib.hid hig
      have HP := Lib.hid hp
      have HOPS := Lib.hid hop
      have hg1 := gNew wr (.cells #[.int .u8 op, .int .i64 mk, .string mt] 45)
      have HB1 := Lib.hid (gTrans hBw hg1)
      have hg2 := gNew2 wr (.cells #[.int .u8 op, .int .i64 mk, .string mt] 45) (.cells #[.int .u8 op, .int .i64 mk, .string mt] 46)
      have HB2 := Lib.hid (gTrans hB hg2)
      have HO2 := Lib.hid (hown.kept (below_by (g := none) hg2) (by cases Value.ownBlock _ <;> simp))
      have HN := Lib.hid (news_of (box2 wr (.cells #[.int .u8 op, .int .i64 mk, .string mt] 45) #[.int .u8 op, .int .i64 mk, .string mt] 46))
      have HBASE := Lib.hid (Nat.le_trans hB.size hg2.size)
      have HMX : Hid (i + 1 ≤ maxLen) := by show _ ≤ _; simp only [maxLen]; omega
      have HBYT : Hid ((i + 1) * 32 ≤ 140737488355328) := by show _ ≤ _; omega
      clear hB hBw c0 c1 c2 hR hig hp hown hop hg1 hg2
      by_cases h4 : (4 : Int) < op
      · have hd4 : decide ((4 : Int) < op) = true := decide_eq_true h4
        go_wp2_with (go_at_call 7; refine (awake_any _).mono ?_; rintro e w5 ⟨rfl, hB5⟩)
        go_ret
        exact ⟨rfl, gTrans HB1.out hB5⟩
      · have hd4 : decide ((4 : Int) < op) = false := decide_eq_false h4
        have H4 : Hid (op ≤ 4) := by show _ ≤ _; omega
        by_cases ht : (100 : Int) < mt.size
        · have hdt : decide ((100 : Int) < mt.size) = true := decide_eq_true ht
          go_wp2_with (go_at_call 7; refine (awake_any _).mono ?_; rintro e w5 ⟨rfl, hB5⟩)
          go_ret
          exact ⟨rfl, gTrans HB1.out hB5⟩
        · have hdt : decide ((100 : Int) < mt.size) = false := decide_eq_false ht
          go_wp2_with ((with_reducible refine at_slot 58 ?_); refine wpList_append_moved _ rfl _ _ 43 rfl wc.heap.size 46 iv _ 3 32 Tryz.underlying43 hiv hv0 hv1 hv2 rfl (by omega) _ i (mvs (ms.take i)) (by rfl) HO2.out ⟨wr.heap.size + 1, 0, none⟩ 1 1 (Mv.cells ⟨op, mk, mt⟩) (by rfl) rfl HN.out (oneMv _) HMX.out HBYT.out HBASE.out ?_; intro v3 w3 hown3 hg3 hm3)
          have HLT := Lib.hid HO2.out.lt
          go_roundg (gk - 1)
          case measure => have := HIG.out; omega
          case rel =>
            refine ⟨i + 1, by have := HIG.out; omega, by simp, ?_, ?_, HB2.out.grown hg3 HBASE.out (fun k hk => (HLT.out k hk).1)⟩
            · rw [take_next HP.out]
              simp only [mvs, List.flatMap_append, List.flatMap_cons, List.flatMap_nil, List.append_nil]
              exact hown3
            · rw [take_next HP.out]
              intro m hm
              rcases List.mem_append.1 hm with hm | hm
              · exact HOPS.out m hm
              · simp only [List.mem_cons, List.not_mem_nil, or_false] at hm
                subst hm
                exact H4.out
    · have hall : ∀ m ∈ ms, MvOK m := fun m hm => by
        rw [List.take_length] at hop
        exact ⟨(HMS.out m hm).1, hop m hm, (HMS.out m hm).2⟩
      have hown' : wr.ownsRow wc.heap.size 46 3 u11 ms.length (mvs ms) := by rw [List.take_length] at hown; exact hown
      have HALL := Lib.hid hall
      have HOWN := Lib.hid hown'
      have hBw := gTrans HBZ.out hB
      have r0 := gCell hB HR01.out.1
      have r1 := gCell hB HR01.out.2
      have HBW := Lib.hid hBw
      have HBC := Lib.hid hB
      have HSP := Lib.hid (sortedPairs_any txt kk nn ps _ wr HZ.out.1 HPS.out (by have := HZ.out.2.1; omega) (HRP.out.grow hBw))
      clear hall hop hown hown' hB hBw hig
      go_upto_region 14 with (go_at_call 15; refine HSP.out.mono ?_; rintro e w5 ⟨v5, rfl, ho5, hB5⟩)
      obtain ⟨va5, vc5, rfl, hvc5, hvr5⟩ := own_rowV ho5
      clear hvr5
      have r0 := gCell hB5 r0
      have r1 := gCell hB5 r1
      have HR05 := Lib.hid (And.intro r0 r1)
      have HB5 := Lib.hid hB5
      have HO5 := Lib.hid ho5
      have hk5 : ∀ j, (Value.slice va5 (putAll txt kk nn (ps.map (keyP txt)) []).length vc5).ownBlock = some j → wr.heap.size ≤ j := fun j hj => (ho5.lt j hj).1
      have HK5 := Lib.hid hk5
      clear r0 r1 hB5 ho5 hk5
      have HLL : Hid ((putAll txt kk nn (ps.map (keyP txt)) []).length ≤ 1000) := by
        have h := walkL_len txt false kk nn ps
        have h2 := HZ.out.2.1
        rw [walkL_map] at h
        exact Nat.le_trans h h2
      have HSET0 : Hid (set = false → walkL txt set kk nn ps = putAll txt kk nn (ps.map (keyP txt)) []) := fun h => by subst h; rfl
      have HSET1 : Hid (set = true → walkL txt set kk nn ps = (putAll txt kk nn (ps.map (keyP txt)) []).map (zeroP true)) := fun h => by subst h; exact walkL_set txt kk nn ps
      generalize putAll txt kk nn (ps.map (keyP txt)) [] = L at *
      go_upto_if 64 with (fail)
      go_cut [] (fun wx => wx.ownsRow wr.heap.size 49 3 (.slice va5 L.length vc5) (walkL txt set kk nn ps).length (prs (walkL txt set kk nn ps)) ∧ w5.grownBy wx (Value.slice va5 L.length vc5).ownBlock)
      case first =>
        cases set
        · go_wp2_with fail
          go_meet
          rw [HSET0.out (by simp)]
          exact ⟨HO5.out, World.grownBy.refl _ _⟩
        · have hL1000 : L.length ≤ 1000 := HLL.out
          go_upto_region 16 with (fail)
          go_loopg [15, 67] L.length (fun g s15 s67 wq => ∃ i : Nat, i + g = L.length ∧ s67 = .int .i64 i ∧ wq.ownsRow wr.heap.size 49 3 (.slice va5 L.length vc5) L.length (prs ((L.take i).map (zeroP true) ++ L.drop i)) ∧ w5.grownBy wq (Value.slice va5 L.length vc5).ownBlock)
          case atStart => exact ⟨0, by omega, rfl, by simpa using HO5.out, World.grownBy.refl _ _⟩
          case round =>
            obtain ⟨i, hig, rfl, hown, hgb⟩ := hrel
            have hlt' : i < L.length ∨ i = L.length := by omega
            rcases hlt' with hlt | rfl
            · obtain ⟨g, cap, tl, he, hbg, hW, hc1, hc2, hc3⟩ := own_whole hown (by omega)
              injection he with he1 he2 he3
              subst he1
              subst he3
              obtain ⟨p, hp⟩ : ∃ p, L[i]? = some p := ⟨_, List.getElem?_eq_getElem hlt⟩
              obtain ⟨hpl, hpe⟩ := List.getElem?_eq_some_iff.1 hp
              have hD : L.drop i = p :: L.drop (i + 1) := by rw [List.drop_eq_getElem_cons hpl, hpe]
              have hT : ((L.take i).map (zeroP true)).length = i := by simp; omega
              have e1 : prs ((L.take i).map (zeroP true) ++ L.drop i) ++ tl = prs ((L.take i).map (zeroP true) ++ p :: L.drop (i + 1)) ++ tl := by rw [hD]
              rw [e1] at hW
              have hlen : (prs ((L.take i).map (zeroP true) ++ p :: L.drop (i + 1)) ++ tl).length = vc5 * 3 := by rw [← e1]; exact hc3
              have hset := set_zero ((L.take i).map (zeroP true)) (L.drop (i + 1)) p tl
              rw [hT] at hset
              have hget : (prs ((L.take i).map (zeroP true) ++ p :: L.drop (i + 1)) ++ tl)[i * 3 + 2]? = some (.int .i64 p.val) := by
                rw [List.getElem?_append_left (by rw [len_prs]; simp; omega)]
                exact flat_get len_prc (l := (L.take i).map (zeroP true) ++ p :: L.drop (i + 1)) (by rw [List.getElem?_append_right (by omega), hT, Nat.sub_self]; rfl) (by decide)
              have x2 := hW.cell hget
              have f2 := hW.frozen (i * 3 + 2)
              obtain ⟨hW2, hU2⟩ := whole_set hW (.int .i64 0) (i := i * 3 + 2) (by rw [hlen]; omega)
              rw [hset] at hW2
              have hii : (i : Int) < (L.length : Int) := by omega
              have HW2 := Lib.hid hW2
              have HU2 := Lib.hid hU2
              have HGB := Lib.hid hgb
              have HIG := Lib.hid hig
              have HLE : Hid (prs ((L.take i).map (zeroP true) ++ p :: L.drop (i + 1)) ++ tl = prs ((L.take i).map (zeroP true) ++ p :: L.drop (i + 1)) ++ tl ∧ (prs ((L.take (i + 1)).map (zeroP true) ++ L.drop (i + 1)) = prs ((L.take i).map (zeroP true) ++ zeroP true p :: L.drop (i + 1)))) := ⟨rfl, by rw [take_next hp, List.map_append, List.append_assoc]; rfl⟩
              have HLEN := Lib.hid hlen
              clear hW hW2 hU2 hgb hig hset hget hD hT e1 hlen hown hp hpe hc3
              go_wp2
              go_roundg (gk - 1)
              case measure => have := HIG.out; omega
              case rel =>
                have hw := HW2.out
                refine ⟨i + 1, by have := HIG.out; omega, by simp, ?_, ?_⟩
                · rw [HLE.out.2]
                  refine whole_own hbg hw (by rw [len_prs]; simp; omega) hc1 hc2 ?_
                  have h := HLEN.out
                  rw [List.length_append, len_prs] at h ⊢
                  simpa using h
                · exact by_upd HGB.out HU2.out (.inl rfl)
            · have hfin : wr.ownsRow wr.heap.size 49 3 (.slice va5 L.length vc5) L.length (prs (L.map (zeroP true))) ∨ True := .inr trivial
              clear hfin
              have hown' := hown
              rw [List.take_length, List.drop_length, List.append_nil] at hown'
              have HOZ := Lib.hid hown'
              have HGB := Lib.hid hgb
              clear hown hown' hgb hig
              go_wp2_with fail
              go_meet
              rw [HSET1.out (by simp), List.length_map]
              exact ⟨HOZ.out, HGB.out⟩
      case rest =>
      obtain ⟨hoL, hgL⟩ := hcut
      have hww : w.heap.size + 1 ≤ wr.heap.size := Nat.le_trans hM HBC.out.size
      have hBL : Below wr.heap.size wr wc := HB5.out.grown hgL HB5.out.size HK5.out
      have hnb : some w.heap.size ≠ (Value.slice va5 L.length vc5).ownBlock := fun e => by have := HK5.out _ e.symm; omega
      have r0 := hgL.cell (a := ⟨w.heap.size, 0, none⟩) HR05.out.1 hnb
      have r1 := hgL.cell (a := ⟨w.heap.size, 1, none⟩) HR05.out.2 hnb
      have HBW2 := Lib.hid (gTrans HBW.out hBL)
      have HO11 := Lib.hid (HOWN.out.kept (below_by (g := none) hBL) (by cases Value.ownBlock _ <;> simp))
      have hp1000 := HZ.out.2.1
      have HSPEC := Lib.hid (specWalk_any txt kk nn (walkL txt set kk nn ps) ms _ _ wc HZ.out.1 (walkL_srt txt set kk nn ps) (walkL_key HPS.out) HALL.out (by have := walkL_len txt set kk nn ps; omega) (by omega) (own_rowV hoL) (HRM.out.grow HBW2.out))
      have HTP : Hid (∀ W, Below w.heap.size w W → Calls Tryz.prog 18 #[.slice pa ps.length pc] W fun e w' => ∃ v', e = .returned v' ∧ w'.ownsRow W.heap.size 59 3 v' ps.length (prs ps) ∧ Below W.heap.size W w') := fun W hW => toPairs_any ps _ W (by omega) (HRP.out.grow hW)
      have HSW : Hid (∀ W v, RowV W v ps.length (prs ps) → RowV W u11 ms.length (mvs ms) → Calls Tryz.prog 17 #[.bool txt, .bool set, ordV kk nn, v, u11] W (Walked2 txt set kk nn ps ms W)) := fun W v h1 h2 => sortedWalk_any txt set kk nn ps ms v u11 W HZ.out.1 HPS.out HALL.out (by omega) (by omega) h1 h2
      clear hoL hgL hBL hnb hww hp1000 HSP HSET0 HSET1 HO5 HB5 HR05 HR01 HBC
      go_upto_region 21 with (go_at_call 16; refine HSPEC.out.mono ?_; rintro e w6 ⟨v6, rfl, ho6, hB6⟩)
      have hans : walkRun (seekP txt kk nn (walkL txt set kk nn ps)) (walkL txt set kk nn ps) (landP 0 (walkL txt set kk nn ps).length) ms = walkAns txt set kk nn ps ms := rfl
      rw [hans] at ho6
      have hal : (walkAns txt set kk nn ps ms).length = ms.length := length_walkRun _ _ _ _
      generalize hAA : walkAns txt set kk nn ps ms = al at *
      have HAA := Lib.hid hAA
      obtain ⟨va6, vc6, rfl, hvc6, hvr6⟩ := own_rowV ho6
      have HR6 := Lib.hid (own_rowV ho6)
      have q0 := gCell hB6 r0
      have q1 := gCell hB6 r1
      have HB6 := Lib.hid (gTrans HBW2.out hB6)
      have HO116 := Lib.hid (HO11.out.kept (below_by (g := none) hB6) (by cases Value.ownBlock _ <;> simp))
      clear hans hAA ho6 hvc6 hvr6 hB6 r0 r1 HSPEC
      go_region_held3 (fun W : World => W.cell? ⟨w.heap.size, 0, none⟩ = some (.int .u8 kk) ∧ W.cell? ⟨w.heap.size, 1, none⟩ = some (.int .i64 nn))
        (first | exact ⟨q0, q1⟩ | exact K7.out | exact K8.out)
        ((first | (go_at_call 18; refine (HTP.out _ (below_drew HB6.out)).mono ?_; rintro e w7 ⟨v7, rfl, ho7, hB7⟩; have hb7 := gTrans (below_drew (gRefl w6)) hB7; have K7 := Lib.hid (And.intro (gCell hb7 q0) (gCell hb7 q1)); have HC7 := Lib.hid (HSW.out w7 v7 (own_rowV ho7) (own_rowV (HO116.out.kept (below_by (g := none) hb7) (by cases Value.ownBlock _ <;> simp)))); have HB7 := Lib.hid hb7; clear ho7 hB7 hb7) | (go_at_call 17; refine HC7.out.mono ?_; rintro e w8 ⟨v8, rfl, ho8, hB8⟩; have K8 := Lib.hid (And.intro (gCell hB8 K7.out.1) (gCell hB8 K7.out.2)); have HB8 := Lib.hid (gTrans HB7.out hB8); have HO8 := Lib.hid ho8; clear ho8 hB8)))
      have ho8 := HO8.out
      rw [HAA.out] at ho8
      obtain ⟨va8, vc8, rfl, hvc8, hvr8⟩ := own_rowV ho8
      have HR8 := Lib.hid (own_rowV ho8)
      have HR68 := Lib.hid (HR6.out.grow HB8.out)
      have HBF := Lib.hid (gTrans HB6.out HB8.out)
      clear ho8 hvc8 hvr8 HO8
      have hmm : ((ms.length : Int) != (ms.length : Int)) = false := by simp
      go_upto_region 25 with (go_at_call 7; refine (awake_any _).mono ?_; rintro e w9 ⟨rfl, hB9⟩)
      have HB9 := Lib.hid hB9
      have HAL := Lib.hid hal
      clear hB9 hal q0 q1 K7 K8
      obtain ⟨a6', c6', he6, hc6', hrow6⟩ := HR68.out
      injection he6 with e1 e2 e3
      subst e1
      obtain ⟨a8', c8', he8, hc8', hrow8⟩ := HR8.out
      injection he8 with e4 e5 e6
      subst e4
      have HROW6 := Lib.hid hrow6
      have HROW8 := Lib.hid hrow8
      clear hrow6 hrow8 hc6' hc8' e2 e5
      go_loopg [105] ms.length (fun g s105 wq => ∃ i : Nat, i + g = ms.length ∧ s105 = .int .i64 i ∧ Below w9.heap.size w9 wq)
      case atStart => exact ⟨0, by omega, rfl, Below.refl _ _⟩
      case round =>
        obtain ⟨i, hig, rfl, hB⟩ := hrel
        have hlt' : i < ms.length ∨ i = ms.length := by omega
        rcases hlt' with hlt | rfl
        · obtain ⟨b6, o6, rfl, hR6⟩ := HROW6.out (by omega)
          obtain ⟨b8, o8, rfl, hR8⟩ := HROW8.out (by omega)
          obtain ⟨⟨⟨qk, qt, qv⟩, ok, dn⟩, hx⟩ : ∃ x, al[i]? = some x := ⟨_, List.getElem?_eq_getElem (by rw [HAL.out]; exact hlt)⟩
          have hc6 := hR6.wa hx
          have hc8 := hR8.wa hx
          dsimp only at hc6 hc8
          obtain ⟨c0, c1, c2, c3, c4⟩ := hc6
          obtain ⟨d0, d1, d2, d3, d4⟩ := hc8
          have hb := gTrans HB9.out hB
          have s0 := gCell hb c0
          have s1 := gCell hb c1
          have s2 := gCell hb c2
          have s3 := gCell hb c3
          have s4 := gCell hb c4
          have hbx := gNew wr (.cells #[.int .i64 qk, .string qt, .int .i64 qv, .bool ok, .bool dn] 58)
          have hN := box_news wr #[.int .i64 qk, .string qt, .int .i64 qv, .bool ok, .bool dn] 58
          have y0 := hN.cell (j := 0) rfl
          have y1 := hN.cell (j := 1) rfl
          have y2 := hN.cell (j := 2) rfl
          have y3 := hN.cell (j := 3) rfl
          have y4 := hN.cell (j := 4) rfl
          have u0 := gCell hbx (gCell hb d0)
          have u1 := gCell hbx (gCell hb d1)
          have u2 := gCell hbx (gCell hb d2)
          have u3 := gCell hbx (gCell hb d3)
          have u4 := gCell hbx (gCell hb d4)
          have hii : (i : Int) < (ms.length : Int) := by omega
          have HIG := Lib.hid hig
          have HBN := Lib.hid (gTrans hB hbx)
          clear hB c0 c1 c2 c3 c4 d0 d1 d2 d3 d4 hb hbx hN hR6 hR8 hx hig
          go_upto_region 27 with (fail)
          clear s0 s1 s2 s3 s4
          generalize wr.alloc (.cells #[.int .i64 qk, .string qt, .int .i64 qv, .bool ok, .bool dn] 58) = wn at *
          go_quiet (fail)
          go_wp2
          go_roundg (gk - 1)
          case measure => have := HIG.out; omega
          case rel => exact ⟨i + 1, by have := HIG.out; omega, by simp, below_drewN HBN.out _⟩
        · have HBE := Lib.hid (gTrans HBF.out (gTrans HB9.out hB))
          clear hB hig
          go_wp2
          go_ret
          exact ⟨rfl, HBE.out⟩
end Go.Proofs.YtfejflhgaphilaaGreatDoor

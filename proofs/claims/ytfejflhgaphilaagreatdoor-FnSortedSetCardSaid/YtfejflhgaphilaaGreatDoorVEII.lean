/-
  THE WALK of a branch's set, and of any node's, instance ii.
-/
import Derived.Test.YtfejflhgaphilaaGreatDoorVDII
import Derived.Test.YtfejflhgaphilaaGreatDoorVC
set_option linter.all false
set_option linter.unusedVariables false
set_option linter.unusedSimpArgs false
set_option linter.unusedSectionVars false
namespace Go.Proofs.YtfejflhgaphilaaGreatDoor
open Go.RowKit Go.Sort Lst
namespace Nii

/-- The child in which k belongs, and what lies beside it. -/
theorem br_mid (kk nn : Int) (k : Int) {ks : List (Kid Int)} (hs : Srt (c kk nn) (ks.map (·.l)).flatten) (hne : ∀ c ∈ ks, c.l ≠ []) (h0 : 0 < ks.length) :
    ∃ x, ks[bi kk nn k ks]? = some x ∧ bi kk nn k ks < ks.length ∧ (∀ a ∈ ((ks.take (bi kk nn k ks)).map (·.l)).flatten, f kk nn k a = -1) ∧ (∀ b ∈ ((ks.drop (bi kk nn k ks + 1)).map (·.l)).flatten, f kk nn k b = 1) := by
  have hle := pos_le (fk kk nn k) ks
  have hlt : bi kk nn k ks < ks.length := by unfold bi; omega
  refine ⟨_, List.getElem?_eq_getElem hlt, hlt, ?_, ?_⟩
  · have := parts_low (ordc kk nn) (L := ks.map (·.l)) hs (k := (k, 0)) (b := pos (fk kk nn k) ks) (fun t p ht hp => by
      cases hq : ks[t]? with
      | none => rw [List.getElem?_map, hq] at hp; cases hp
      | some x =>
        have h1 := pos_lt (fk kk nn k) ks t x ht hq
        rw [head_of hq] at hp
        unfold fk at h1
        cases hxl : x.l with
        | nil => rw [hxl] at hp; cases hp
        | cons y _ =>
          rw [hxl] at hp h1
          simp at hp h1
          subst hp
          exact h1) (by simpa using hne) (by simpa using hle)
    unfold bi
    rw [← List.map_take] at this
    exact this
  · have := parts_high (ordc kk nn) (L := ks.map (·.l)) hs (k := (k, 0)) (b := pos (fk kk nn k) ks) (fun t p ht hp => by
      cases hq : ks[t]? with
      | none => rw [List.getElem?_map, hq] at hp; cases hp
      | some x =>
        have hb : pb kk nn k ks t = true := by
          have htl := (List.getElem?_eq_some_iff.1 hq).1
          refine mono_pb hs hne (pos (fk kk nn k) ks) t ht htl ?_
          obtain ⟨u, hu⟩ : ∃ u, ks[pos (fk kk nn k) ks]? = some u := ⟨_, List.getElem?_eq_getElem (by omega)⟩
          have h1 := pos_at (fk kk nn k) ks u hu
          unfold pb
          rw [hu]
          simp only [beq_iff_eq]
          unfold fk at h1 ⊢
          split at h1
          · rename_i heq
            split at h1
            · rename_i hc; rw [if_pos hc]
            · exact absurd rfl h1
          · rfl
        rw [head_of hq] at hp
        unfold pb at hb
        rw [hq] at hb
        simp only [beq_iff_eq] at hb
        unfold fk at hb
        cases hxl : x.l with
        | nil => rw [hxl] at hp; cases hp
        | cons y _ =>
          rw [hxl] at hp hb
          simp at hp hb
          subst hp
          exact hb) (n := bi kk nn k ks + 1) (by unfold bi; omega)
    rw [← List.map_drop] at this
    exact this

def fSet : Nat → FuncId | 0 => 217 | _ + 1 => 253
theorem meSet : ∀ (h a : Nat) (w : World), (method 474 (ty h) (.pointer (some ⟨a, 0, none⟩)) "pub-bracken/pub/immutable.set").run Tryz.prog w = .ok (fSet h, .pointer (some ⟨a, 0, none⟩)) w
  | 0, _, _ => by kernel_rfl
  | _ + 1, _, _ => by kernel_rfl
theorem enSet : ∀ (h : Nat) (args : Array Value) (w : World), (callFunc (fSet h) args).run Tryz.prog w = .ok (.enter (fSet h) args) w
  | 0 => enters_of Tryz.func217 (by kernel_rfl) rfl
  | _ + 1 => enters_of Tryz.func253 (by kernel_rfl) rfl

theorem infoB : (Tryz.prog.info? 301).map (fun i => (i.zero, i.size, i.bytes)) = some (some (.agg #[Value.int IntKind.i64 0, .nilIface]), 2, 24) := by kernel_rfl


/-- A kid that a child's set has left, and its first key, in any later world. -/
theorem kid_later {w wc : World} {S : Nat → Prop} (hS : ∀ x, S x → x < w.heap.size) (hwa : w.heap.size ≤ wc.heap.size) {h : Nat} {v : Value} {l : List (Int × Int)} {x : Nat} (hn : Node Iii wc (Plus S w wc) h v l x) :
    ∃ ka, v = .iface (ty h) (.pointer (some ⟨ka, 0, none⟩)) ∧ (∀ W, Below wc.heap.size wc W → Node Iii W (Plus S w W) h (.iface (ty h) (.pointer (some ⟨ka, 0, none⟩))) l x) ∧
      ∀ W, Below wc.heap.size wc W → Calls Tryz.prog (fMin h) #[.pointer (some ⟨ka, 0, none⟩)] W fun e w' => e = .returned (keyOf Iii l) ∧ w' = W := by
  obtain ⟨ka, rfl⟩ := node_ptr hn
  have hl := fun W (hB : Below wc.heap.size wc W) => hn.plus hS hwa hB
  exact ⟨ka, rfl, hl, fun W hB => (node_min h ka l x (hl W hB)).mono fun e w' ⟨h1, h2⟩ => ⟨h1, h2.symm⟩⟩
theorem key_one {l : List (Int × Int)} (h : l ≠ []) : (keyOf Iii l).oneCell' = true := by
  cases l with
  | nil => exact absurd rfl h
  | cons _ _ => rfl
theorem key_is {l : List (Int × Int)} (h : l ≠ []) : ∃ x, keyOf Iii l = Value.int IntKind.i64 x := by
  cases l with
  | nil => exact absurd rfl h
  | cons p _ => exact ⟨p.1, rfl⟩
theorem oneP {W : World} {S : Nat → Prop} {h : Nat} {ks : List (Kid Int)} (hk : ∀ c ∈ ks, Node Iii W S h c.v c.l c.f) : ∀ v ∈ ks.flatMap pay, v.oneCell' = true := by
  intro v hv
  obtain ⟨p, hpm, hp⟩ := List.mem_flatMap.1 hv
  simp [pay] at hp
  rcases hp with rfl | rfl
  · exact key_one (hk p hpm).ne
  · obtain ⟨a, ha⟩ := node_ptr (hk p hpm)
    rw [ha]; rfl

set_option maxHeartbeats 4000000 in
set_option maxRecDepth 100000 in
theorem brset (h : Nat) (kk nn : Int) (cv : Value) (hc : OK kk nn cv) (a b o cap : Nat) (ks : List (Kid Int)) (k : Int) (v : Int) (w : World)
    (h4 : w.cell? ⟨a, 0, none⟩ = some (.slice (some ⟨b, o, none⟩) ks.length cap)) (hR : Row w b o (ks.flatMap pay)) (hl : ks.length ≤ 32) (h0 : 0 < ks.length) (hcap : ks.length ≤ cap)
    (hs : Srt (c kk nn) (ks.map (·.l)).flatten) (hwf : ∀ c ∈ ks, ∀ p ∈ c.l, WfI p.1) (hk : WfI k)
    (r : Nat) (rz : Bool) (hr : w.cell? ⟨r, 0, none⟩ = some (.bool rz)) (hrf : w.frozen? ⟨r, 0, none⟩ = false) (S : Nat → Prop) (hS : ∀ x, S x → x < w.heap.size) (hSr : ¬ S r) (hSa : S a) (hSb : S b)
    (hks : ∀ c ∈ ks, Node Iii w S h c.v c.l c.f)
    (IH : ∀ (ca : Nat) (l : List (Int × Int)) (x : Nat) (W : World), Node Iii W S h (.iface (ty h) (.pointer (some ⟨ca, 0, none⟩))) l x → (∀ x, S x → x < W.heap.size) → W.cell? ⟨r, 0, none⟩ = some (.bool rz) → W.frozen? ⟨r, 0, none⟩ = false →
      Srt (c kk nn) l → (∀ p ∈ l, WfI p.1) → Calls Tryz.prog (fSet h) #[.pointer (some ⟨ca, 0, none⟩), Value.int IntKind.i64 k, val v, cv, .bool false, .pointer (some ⟨r, 0, none⟩)] W (SetRes Iii W S r (rz || !has (f kk nn k) l) h (ins (f kk nn k) (k, v) l) x)) :
    Calls Tryz.prog 253 #[.pointer (some ⟨a, 0, none⟩), Value.int IntKind.i64 k, val v, cv, .bool false, .pointer (some ⟨r, 0, none⟩)] w
      (SetRes Iii w S r (rz || !has (f kk nn k) (ks.map (·.l)).flatten) (h + 1) (ins (f kk nn k) (k, v) (ks.map (·.l)).flatten) ((ks.map (·.f)).sum + 16 ^ (h + 1) * (ks.length - 17))) := by
  have hne : ∀ c ∈ ks, c.l ≠ [] := fun c hc => (hks c hc).ne
  have IDX := fun W (hW : Below w.heap.size w W) => bridx kk nn _ hc a b o cap ks k W (gCell hW h4) (hR.grow hW) hl hs hne hwf hk
  obtain ⟨x, hx, hq, hA, hB⟩ := br_mid kk nn k hs hne h0
  have hxm := List.mem_of_getElem? hx
  have hflat : (ks.map (·.l)).flatten = ((ks.take (bi kk nn k ks)).map (·.l)).flatten ++ x.l ++ ((ks.drop (bi kk nn k ks + 1)).map (·.l)).flatten := by
    have h1 : (ks.map (·.l)).flatten = ((ks.take (bi kk nn k ks) ++ x :: ks.drop (bi kk nn k ks + 1)).map (·.l)).flatten := by rw [← kids_split hx]
    rw [h1]; simp
  have hxs : Srt (c kk nn) x.l := (List.pairwise_flatten.1 hs).1 _ (List.mem_map.2 ⟨x, hxm, rfl⟩)
  have hins := ins_mid hA hB (li := x.l) (k, v)
  have hhas := has_mid hA hB (li := x.l)
  rw [← hflat] at hins hhas
  obtain ⟨ca, hca⟩ := node_ptr (hks x hxm)
  have hkeep : ∀ W, Below w.heap.size w W → ∀ c ∈ ks, Node Iii W S h c.v c.l c.f := fun W hW c hc => (hks c hc).keep (fun _ h => h) fun y hy => hW.block y (hS y hy)
  have CALL : ∀ W, Below w.heap.size w W → Calls Tryz.prog (fSet h) #[.pointer (some ⟨ca, 0, none⟩), Value.int IntKind.i64 k, val v, cv, .bool false, .pointer (some ⟨r, 0, none⟩)] W fun e w' => ∃ s15 s16, e = .returned (.tuple #[s15, s16]) ∧ Kids Iii w S r (rz || !has (f kk nn k) x.l) h (ins (f kk nn k) (k, v) x.l) x.f s15 s16 w' := fun W hW =>
    Calls.mono (R' := fun e w' => ∃ s15 s16, e = .returned (.tuple #[s15, s16]) ∧ Kids Iii w S r (rz || !has (f kk nn k) x.l) h (ins (f kk nn k) (k, v) x.l) x.f s15 s16 w') (IH ca x.l x.f W (hca ▸ hkeep W hW x hxm) (fun y hy => Nat.lt_of_lt_of_le (hS y hy) hW.size) (gCell hW hr) (gFrozen hW (World.block_lt_of_cell? w _ hr) hrf) hxs (hwf x hxm)) fun _ _ => kids_of hW
  have h5 : w.cell? ⟨b, o + (bi kk nn k ks * 2 + 1), none⟩ = some (.iface (ty h) (.pointer (some ⟨ca, 0, none⟩))) := by
    rw [← hca]; exact hR _ _ (flat_get pay_len hx (j := 1) (by decide))
  rw [← Nat.add_assoc] at h5
  have har : a ≠ r := fun e => hSr (e ▸ hSa)
  have hbr : b ≠ r := fun e => hSr (e ▸ hSb)
  obtain ⟨i0, hi, hz0, hz1, hz2⟩ := info_parts infoB
  obtain ⟨ct, cx, cfc, crv, rfl, _⟩ := id hc
  have m1 := meSet h ca
  have eg := enSet h
  rw [hhas, hins]
  have HA := Lib.hid hA
  have HB := Lib.hid hB
  have HX := Lib.hid hx
  have HK := Lib.hid hks
  have HI := Lib.hid IDX
  have HC := Lib.hid CALL
  have H4 := Lib.hid h4
  have hla : a < w.heap.size := hS a hSa
  have hlb : b < w.heap.size := hS b hSb
  have hqks : (ks.drop (bi kk nn k ks)).flatMap pay = pay x ++ (ks.drop (bi kk nn k ks + 1)).flatMap pay := by
    rw [show ks.drop (bi kk nn k ks) = x :: ks.drop (bi kk nn k ks + 1) by rw [← (List.getElem?_eq_some_iff.1 hx).2, ← List.drop_eq_getElem_cons]]
    rfl
  have HQ := Lib.hid hqks
  have HCAP := Lib.hid hcap
  clear IDX CALL hkeep IH hc hs hwf hxs hflat hins hhas hA hB hne h0 hks hca hxm hx hqks hcap
  generalize hfc : fSet h = fc at *
  clear hfc
  generalize hli : ins (f kk nn k) (k, v) x.l = li at *
  clear hli
  generalize hLL : ((ks.take (bi kk nn k ks)).map (·.l)).flatten ++ li ++ ((ks.drop (bi kk nn k ks + 1)).map (·.l)).flatten = LL at *
  have HLL := Lib.hid hLL.symm
  clear hLL
  generalize bi kk nn k ks = q at *
  generalize hn : ks.length = n at *
  have HN := Lib.hid hn
  have HR := Lib.hid hR
  clear hn hR
  have hq' : (q : Int) < (n : Int) := by omega
  go_enter Tryz.func253, Tryz.ntmps253
  go_upto_region 2 with (go_at_call 251; refine (HI.out _ (gRefl _)).mono ?_; rintro e w1 ⟨rfl, hB⟩)
  have hB1 := hB
  have q4 := gCell hB1 h4
  have q5 := gCell hB1 h5
  have HB1 := Lib.hid hB1
  clear hB hB1 HI h4 h5
  go_cut [15, 16] (fun s15 s16 wx => Kids Iii w S r (rz || !has (f kk nn k) x.l) h li x.f s15 s16 wx)
  case first =>
    --FIRST
    have HCW := Lib.hid (HC.out w1 HB1.out)
    clear HC
    go_wp2_with (go_at_fn fc; refine HCW.out.mono ?_; rintro e w' ⟨s15, s16, rfl, hK⟩)
    go_meet
    exact hK
    --END
  case rest =>
    obtain ⟨hF, qr, qf, hK⟩ := hcut
    have HO := Lib.hid (oneP HK.out)
    clear HB1 HC q4 q5 m1 eg hr hrf
    have gsz : w.heap.size ≤ wc.heap.size := hF.size
    have q4 : wc.cell? ⟨a, 0, none⟩ = some (.slice (some ⟨b, o, none⟩) n cap) := cell_block (hF.block a hla (by simpa using har)) H4.out
    have qR : Row wc b o (ks.flatMap pay) := HR.out.of_block (hF.block b hlb (by simpa using hbr))
    have HKW : Hid (∀ c ∈ ks, Node Iii wc (Plus S w wc) h c.v c.l c.f) := fun c hc => (HK.out c hc).keep (fun x hx => .inl hx) fun y hy => hF.block y (hS y hy) (by intro e; injection e with e; exact hSr (e ▸ hy))
    have qlt : r < wc.heap.size := World.block_lt_of_cell? wc _ qr
    have C1 : Hid (∀ j, j ≤ n → ((ks.take j).flatMap pay).length = j * 2) := fun j hj => by rw [flat_len pay_len, List.length_take, HN.out, Nat.min_eq_left hj]
    have C2 : Hid (∀ j, j ≤ n → ((ks.drop j).flatMap pay).length = (n - j) * 2) := fun j hj => by rw [flat_len pay_len, List.length_drop, HN.out]
    have hag : a ≠ wc.heap.size + 1 := by omega
    have hbg : b ≠ wc.heap.size + 1 := by omega
    have hrg : r ≠ wc.heap.size + 1 := by omega
    have hga : wc.heap.size ≠ wc.heap.size + 1 := by omega
    rcases hK with ⟨rfl, f1, hn1, hf1⟩ | ⟨l1, l2, f1, f2, hl12, hn1, hn2, hf12⟩
    · obtain ⟨ka, rfl, hlat, hmin⟩ := kid_later hS gsz hn1
      have m1 := meMin h ka
      have eg := enMin h
      obtain ⟨k1, hK1⟩ := key_is hn1.ne
      simp only [hK1] at hmin
      have HMIN := Lib.hid hmin
      have HLAT := Lib.hid hlat
      have HF1 := Lib.hid hf1
      clear hn1 hmin hlat hf1
      generalize hfm : fMin h = fm at *
      clear hfm
      have HK1 := Lib.hid hK1
      clear hK1
      have hB0 := gNew wc (.cells #[.slice none 0 0] 304)
      have hsz0 : (wc.alloc (.cells #[.slice none 0 0] 304)).heap.size = wc.heap.size + 1 := by simp
      have hW0 := box_new wc (.slice none 0 0) 304
      have q40 := gCell hB0 q4
      go_upto_region 18 with (at_make; refine wpList_makeN rfl _ _ 302 rfl 301 i0 _ 2 24 Tryz.underlying302 hi hz0 hz1 hz2 _ _ _ _ n rfl rfl (by omega) (by omega) (by omega) (by omega) ?_; rw [hsz0]; intro w3 cur hcl HW hB3 hs3; have q20 := (hW0.grow (by rw [hsz0]; exact hB3)).cell (j := 0) rfl; have f20 := (hW0.grow (by rw [hsz0]; exact hB3)).frozen 0)
      obtain ⟨hB4, HW4, hb4⟩ := box_set wc w3 (.slice (some ⟨wc.heap.size + 1, 0, none⟩) n n) (gTrans hB0 (by rw [hsz0]; exact hB3)) HW (by omega) q20
      generalize w3.setCell ⟨wc.heap.size, 0, none⟩ (.slice (some ⟨wc.heap.size + 1, 0, none⟩) n n) = w4 at *
      have q44 := gCell hB4 q4
      have QR := Lib.hid (qR.grow hB4)
      have HCL := Lib.hid hcl
      have HB4 := Lib.hid hB4
      have HW4' := Lib.hid HW4
      clear hB0 hsz0 hW0 q40 hB3 hs3 q20 f20 HW w3 hcl hB4 q4 qR HW4
      have CN : Hid ((ks.flatMap pay).length = n * 2) := by show _ = _; rw [flat_len pay_len, HN.out]
      refine wp_region_still_tail 6 (by kernel_rfl) (by kernel_rfl) ?_
      change wpStill _ _ w4.drew _ _ _
      simp only [List.take_succ_cons, List.take_zero, List.drop_succ_cons, List.drop_zero]
      repeat still_step
      refine wpStill_nil ?_
      refine wpList_copyN (w := w4.drew) rfl _ _ _ _ rfl 301 2 Tryz.underlying302 (by kernel_rfl) (some ⟨wc.heap.size + 1, 0, none⟩) (some ⟨b, o, none⟩) n n n cap (by rfl) (by rfl) (wc.heap.size + 1) 0 cur 301 HW4'.out n (Nat.min_self n).symm (ks.flatMap pay) CN.out (fun _ => ⟨rfl, b, o, rfl, QR.out⟩) (by have h1 := CN.out; have h2 := HCL.out; omega) HO.out ?_
      intro w5 HW5 hU5'
      have hU5 := upd_drew hU5'
      clear hU5'
      go_upto_region 19 with (fail)
      have L4 : (splice cur 0 (ks.flatMap pay)).length = n * 2 := by rw [splice_len (by rw [CN.out, HCL.out]; omega), HCL.out]
      have H4 := Lib.hid (show q * 2 + (#[Value.int IntKind.i64 k1, .iface (ty h) (.pointer (some ⟨ka, 0, none⟩))] : Array Value).size ≤ (splice cur 0 (ks.flatMap pay)).length by rw [L4]; simp; omega)
      have hb5 := hU5.cell (p := ⟨wc.heap.size, 0, none⟩) hga hb4
      have HB5 := Lib.hid (below_drew (below_upd HB4.out hU5 (by omega)))
      clear q44 hb4 hU5 HB4 HW4' QR
      refine wp_region_still_tail 8 (by kernel_rfl) (by kernel_rfl) ?_
      change wpStill _ _ w5.drew _ _ _
      simp only [List.take_succ_cons, List.take_zero, List.drop_succ_cons, List.drop_zero]
      repeat still_step
      still_call (HMIN.out w5.drew HB5.out)
      repeat still_step
      refine wpStill_nil ?_
      refine wpList_storeN (w := w5.drew) rfl _ _ _ rfl (wc.heap.size + 1) (q * 2) #[Value.int IntKind.i64 k1, .iface (ty h) (.pointer (some ⟨ka, 0, none⟩))] (by first | rfl | simp [Act.eval]) rfl _ 301 HW5 (by kernel_rfl) H4.out (by intro u hu; simp at hu; rcases hu with rfl | rfl <;> rfl) ?_
      intro w6 HW6 hU6
      have L6 : splice (splice cur 0 (ks.flatMap pay)) (q * 2) [Value.int IntKind.i64 k1, .iface (ty h) (.pointer (some ⟨ka, 0, none⟩))] = (ks.take q ++ (⟨.iface (ty h) (.pointer (some ⟨ka, 0, none⟩)), li, f1⟩ : Kid Int) :: ks.drop (q + 1)).flatMap pay := by
        have e := splice2 (cur := cur) (L := ks.flatMap pay) (x := pay (⟨.iface (ty h) (.pointer (some ⟨ka, 0, none⟩)), li, f1⟩ : Kid Int)) (n := q * 2) (by rw [CN.out, HCL.out]) (by rw [CN.out, pay_len, ← Nat.succ_mul]; exact Nat.mul_le_mul_right _ (by omega))
        rw [pay_len, flat_take pay_len, ← Nat.succ_mul, flat_drop pay_len] at e
        rw [show ([Value.int IntKind.i64 k1, .iface (ty h) (.pointer (some ⟨ka, 0, none⟩))] : List Value) = pay (⟨.iface (ty h) (.pointer (some ⟨ka, 0, none⟩)), li, f1⟩ : Kid Int) by unfold pay; rw [← HK1.out], e]
        simp
      have HW6' := Lib.hid (L6 ▸ HW6)
      have hb6 := hU6.cell (p := ⟨wc.heap.size, 0, none⟩) hga hb5
      have HB6 := Lib.hid (below_upd HB5.out hU6 (by omega))
      clear hb5 hU6 HW5 HW6 L6 L4 H4 HB5
      have hn32 : ¬ (32 : Int) < (n : Int) := by omega
      go_wp2
      go_ret2
      have HC := bclose1 (I := Iii) (w := w) (S := S) (ks := ks) (c := x) (c1 := (⟨.iface (ty h) (.pointer (some ⟨ka, 0, none⟩)), li, f1⟩ : Kid Int)) (frm_below hF HB6.out) (gCell HB6.out qr) (gFrozen HB6.out qlt qf) HW6'.out (by omega) (by rw [HN.out]; exact hb6) gsz HX.out (by rw [HN.out]; exact hl) (fun c hc => (HKW.out c hc).plus hS gsz HB6.out) (HLAT.out w6 HB6.out) HF1.out rfl rfl HLL.out
      rw [HN.out] at HC
      exact HC
    · obtain ⟨ka, rfl, hlat, hmin⟩ := kid_later hS gsz hn1
      obtain ⟨kb, rfl, hlat2, hmin2⟩ := kid_later hS gsz hn2
      have m1 := meMin h ka
      have m2 := meMin h kb
      have eg := enMin h
      obtain ⟨k1, hK1⟩ := key_is hn1.ne
      obtain ⟨k2, hK2⟩ := key_is hn2.ne
      simp only [hK1] at hmin
      simp only [hK2] at hmin2
      have HMIN := Lib.hid hmin
      have HMIN2 := Lib.hid hmin2
      have HLAT := Lib.hid hlat
      have HLAT2 := Lib.hid hlat2
      have HF12 := Lib.hid hf12
      have HL12 := Lib.hid hl12
      have HK1 := Lib.hid hK1
      have HK2 := Lib.hid hK2
      clear hn1 hmin hlat hn2 hmin2 hlat2 hf12 hl12 hK1 hK2
      generalize hfm : fMin h = fm at *
      clear hfm
      have hB0 := gNew wc (.cells #[.slice none 0 0] 304)
      have hsz0 : (wc.alloc (.cells #[.slice none 0 0] 304)).heap.size = wc.heap.size + 1 := by simp
      have hW0 := box_new wc (.slice none 0 0) 304
      have q40 := gCell hB0 q4
      go_upto_region 21 with (at_make; refine wpList_makeN rfl _ _ 302 rfl 301 i0 _ 2 24 Tryz.underlying302 hi hz0 hz1 hz2 _ _ _ _ (n + 1) rfl rfl (by omega) (by omega) (by omega) (by omega) ?_; rw [hsz0]; intro w3 cur hcl HW hB3 hs3; have q20 := (hW0.grow (by rw [hsz0]; exact hB3)).cell (j := 0) rfl; have f20 := (hW0.grow (by rw [hsz0]; exact hB3)).frozen 0)
      obtain ⟨hB4, HW4, hb4⟩ := box_set wc w3 (.slice (some ⟨wc.heap.size + 1, 0, none⟩) (n + 1) (n + 1)) (gTrans hB0 (by rw [hsz0]; exact hB3)) HW (by omega) q20
      generalize w3.setCell ⟨wc.heap.size, 0, none⟩ (.slice (some ⟨wc.heap.size + 1, 0, none⟩) (n + 1) (n + 1)) = w4 at *
      have q44 := gCell hB4 q4
      have qR4 := qR.grow hB4
      have R1 : Hid (Row w4 b o ((ks.take q).flatMap pay)) := by have := qR4.take (q * 2); rw [flat_take pay_len] at this; exact this
      have R2 : Hid (Row w4 b (o + q * 2) ((ks.drop q).flatMap pay)) := by have := qR4.drop (q * 2); rw [flat_drop pay_len] at this; exact this
      have HCL := Lib.hid hcl
      have HB4 := Lib.hid hB4
      have HW4' := Lib.hid HW4
      clear hB0 hsz0 hW0 q40 hB3 hs3 q20 f20 HW w3 hcl hB4 q4 qR HW4 qR4
      have hqn1 : (q : Int) ≤ (n : Int) + 1 := by omega
      have hqn2 : q ≤ n + 1 := by omega
      have hqc1 : (q : Int) ≤ (cap : Int) := by have := HCAP.out; omega
      have hqc2 : q ≤ cap := by have := HCAP.out; omega
      refine wp_region_still_tail 10 (by kernel_rfl) (by kernel_rfl) ?_
      change wpStill _ _ w4.drew _ _ _
      simp only [List.take_succ_cons, List.take_zero, List.drop_succ_cons, List.drop_zero]
      repeat still_step
      refine wpStill_nil ?_
      refine wpList_copyN (w := w4.drew) rfl _ _ _ _ rfl 301 2 Tryz.underlying302 (by kernel_rfl) _ _ _ _ _ _ rfl rfl (wc.heap.size + 1) 0 cur 301 HW4'.out q (Nat.min_self q).symm ((ks.take q).flatMap pay) (C1.out q (by omega)) (fun _ => ⟨rfl, b, o, rfl, R1.out⟩) (by have h1 := C1.out q (by omega); have h2 := HCL.out; omega) (fun v hv => HO.out v (by rw [List.mem_flatMap] at hv ⊢; obtain ⟨c, h1, h2⟩ := hv; exact ⟨c, List.mem_of_mem_take h1, h2⟩)) ?_
      intro w5 HW5 hU5'
      have hU5 := upd_drew hU5'
      clear hU5'
      have L5 : (splice cur 0 ((ks.take q).flatMap pay)).length = (n + 1) * 2 := by rw [splice_len (by rw [C1.out q (by omega), HCL.out]; omega), HCL.out]
      have H5 := Lib.hid L5
      have hb5 := hU5.cell (p := ⟨wc.heap.size, 0, none⟩) hga hb4
      have q45 := hU5.cell (p := ⟨a, 0, none⟩) hag q44
      have R3 := Lib.hid (hU5.row hbg R2.out)
      have HB5 := Lib.hid (below_upd HB4.out hU5 (by omega))
      have HW5' := Lib.hid HW5
      obtain ⟨D1, hD1, rD1⟩ := slice_from (P := Tryz.prog) 302 301 2 Tryz.underlying302 (by kernel_rfl) (wc.heap.size + 1) 0 (n + 1) (n + 1) (q + 1) ((q : Int) + 1) (by omega) (by omega) (Nat.le_refl _)
      obtain ⟨D2, hD2, rD2⟩ := slice_from (P := Tryz.prog) 302 301 2 Tryz.underlying302 (by kernel_rfl) b o n cap q (q : Int) rfl (by omega) HCAP.out
      have HD1 := Lib.hid hD1
      have HD2 := Lib.hid hD2
      clear q44 hb4 hU5 HB4 HW4' R1 R2 L5 HW5 hD1 hD2 hqn1 hqn2 hqc1 hqc2
      go_upto_region 22 with (fail)
      have hw1 : IntKind.i64.wrap ((q : Int) + 1) = (q : Int) + 1 := IntWalk.i64_in _ (by omega)
      refine wp_region_still_tail 11 (by kernel_rfl) (by kernel_rfl) ?_
      change wpStill _ _ w5.drew _ _ _
      simp only [List.take_succ_cons, List.take_zero, List.drop_succ_cons, List.drop_zero]
      repeat still_step
      clear rD1 rD2
      refine wpStill_nil ?_
      refine wpList_copyN (w := w5.drew) rfl _ _ _ _ rfl 301 2 Tryz.underlying302 (by kernel_rfl) _ _ _ _ _ _ rfl rfl (wc.heap.size + 1) (0 + (q + 1) * 2) _ 301 HW5'.out (n - q) ?m1 ((ks.drop q).flatMap pay) (C2.out q (by omega)) (fun hm => ⟨HD1.out (by omega), b, o + q * 2, HD2.out (by omega), R3.out⟩) ?m5 (fun v hv => HO.out v (by rw [List.mem_flatMap] at hv ⊢; obtain ⟨c, h1, h2⟩ := hv; exact ⟨c, List.mem_of_mem_drop h1, h2⟩)) ?m6
      case m1 => simp
      case m5 => rw [H5.out, C2.out q (by omega), Nat.zero_add, ← Nat.add_mul]; exact Nat.mul_le_mul_right _ (by omega)
      intro w6 HW6 hU6'
      have hU6 := upd_drew hU6'
      clear hU6'
      have L6 : (splice (splice cur 0 ((ks.take q).flatMap pay)) (0 + (q + 1) * 2) ((ks.drop q).flatMap pay)).length = (n + 1) * 2 := by
        rw [splice_len (by rw [H5.out, C2.out q (by omega), Nat.zero_add, ← Nat.add_mul]; exact Nat.mul_le_mul_right _ (by omega)), H5.out]
      have H6 := Lib.hid L6
      have hb6 := hU6.cell (p := ⟨wc.heap.size, 0, none⟩) hga hb5
      have HB6 := Lib.hid (below_drew (below_upd HB5.out hU6 (by omega)))
      have HW6' := Lib.hid HW6
      have H6a := Lib.hid (show q * 2 + (#[Value.int IntKind.i64 k1, .iface (ty h) (.pointer (some ⟨ka, 0, none⟩))] : Array Value).size ≤ (n + 1) * 2 by simp; omega)
      clear q45 hb5 hU6 R3 HB5 HW5' HD1 HD2 L6 HW6 hw1
      go_upto_region 23 with (fail)
      have hqn1 : (q : Int) < (n : Int) + 1 := by omega
      have hqn2 : q < n + 1 := by omega
      refine wp_region_still_tail 8 (by kernel_rfl) (by kernel_rfl) ?_
      change wpStill _ _ w6.drew _ _ _
      simp only [List.take_succ_cons, List.take_zero, List.drop_succ_cons, List.drop_zero]
      repeat still_step
      still_call (HMIN.out w6.drew HB6.out)
      repeat still_step
      refine wpStill_nil ?_
      refine wpList_storeN (w := w6.drew) rfl _ _ _ rfl (wc.heap.size + 1) (q * 2) #[Value.int IntKind.i64 k1, .iface (ty h) (.pointer (some ⟨ka, 0, none⟩))] (by first | rfl | simp [Act.eval]) rfl _ 301 HW6'.out (by kernel_rfl) (by rw [H6.out]; exact H6a.out) (by intro u hu; simp at hu; rcases hu with rfl | rfl <;> rfl) ?_
      intro w7 HW7 hU7
      have hb7 := hU7.cell (p := ⟨wc.heap.size, 0, none⟩) hga hb6
      have HB7 := Lib.hid (below_drew (below_upd HB6.out hU7 (by omega)))
      have L7 : (splice (splice (splice cur 0 ((ks.take q).flatMap pay)) (0 + (q + 1) * 2) ((ks.drop q).flatMap pay)) (q * 2) (#[Value.int IntKind.i64 k1, .iface (ty h) (.pointer (some ⟨ka, 0, none⟩))] : Array Value).toList).length = (n + 1) * 2 := by
        rw [splice_len (by rw [H6.out]; simp; omega), H6.out]
      have H7a := Lib.hid (show (q + 1) * 2 + (#[Value.int IntKind.i64 k2, .iface (ty h) (.pointer (some ⟨kb, 0, none⟩))] : Array Value).size ≤ (n + 1) * 2 by simp; omega)
      have H7 := Lib.hid L7
      have HW7' := Lib.hid HW7
      clear hb6 hU7 HB6 HW6' H6a HW7 L7
      go_upto_region 24 with (fail)
      have hqn3 : (q : Int) + 1 < (n : Int) + 1 := by omega
      have hqn4 : q + 1 < n + 1 := by omega
      have hqn5 : (0 : Int) ≤ (q : Int) + 1 := by omega
      have hw1 : IntKind.i64.wrap ((q : Int) + 1) = (q : Int) + 1 := IntWalk.i64_in _ (by omega)
      refine wp_region_still_tail 9 (by kernel_rfl) (by kernel_rfl) ?_
      change wpStill _ _ w7.drew _ _ _
      simp only [List.take_succ_cons, List.take_zero, List.drop_succ_cons, List.drop_zero]
      repeat still_step
      still_call (HMIN2.out w7.drew HB7.out)
      repeat still_step
      refine wpStill_nil ?_
      refine wpList_storeN (w := w7.drew) rfl _ _ _ rfl (wc.heap.size + 1) ((q + 1) * 2) #[Value.int IntKind.i64 k2, .iface (ty h) (.pointer (some ⟨kb, 0, none⟩))] (by first | rfl | simp [Act.eval]) rfl _ 301 HW7'.out (by kernel_rfl) (by rw [H7.out]; exact H7a.out) (by intro u hu; simp at hu; rcases hu with rfl | rfl <;> rfl) ?_
      intro w8 HW8 hU8
      have hb8 := hU8.cell (p := ⟨wc.heap.size, 0, none⟩) hga hb7
      have HB8 := Lib.hid (below_upd HB7.out hU8 (by omega))
      have L8 : splice (splice (splice (splice cur 0 ((ks.take q).flatMap pay)) (0 + (q + 1) * 2) ((ks.drop q).flatMap pay)) (q * 2) (#[Value.int IntKind.i64 k1, .iface (ty h) (.pointer (some ⟨ka, 0, none⟩))] : Array Value).toList) ((q + 1) * 2) (#[Value.int IntKind.i64 k2, .iface (ty h) (.pointer (some ⟨kb, 0, none⟩))] : Array Value).toList
          = (ks.take q ++ (⟨.iface (ty h) (.pointer (some ⟨ka, 0, none⟩)), l1, f1⟩ : Kid Int) :: (⟨.iface (ty h) (.pointer (some ⟨kb, 0, none⟩)), l2, f2⟩ : Kid Int) :: ks.drop (q + 1)).flatMap pay := by
        have e := splice4 (cur := cur) (A := (ks.take q).flatMap pay) (x := pay x) (B := (ks.drop (q + 1)).flatMap pay) (y := pay (⟨.iface (ty h) (.pointer (some ⟨ka, 0, none⟩)), l1, f1⟩ : Kid Int)) (z := pay (⟨.iface (ty h) (.pointer (some ⟨kb, 0, none⟩)), l2, f2⟩ : Kid Int)) (n := q * 2) (k := 2) (C1.out q (by omega)) rfl rfl rfl (by rw [HCL.out, C2.out (q + 1) (by omega)]; omega)
        rw [Nat.zero_add, HQ.out, show (q + 1) * 2 = q * 2 + 2 by omega]
        rw [show (#[Value.int IntKind.i64 k1, .iface (ty h) (.pointer (some ⟨ka, 0, none⟩))] : Array Value).toList = pay (⟨.iface (ty h) (.pointer (some ⟨ka, 0, none⟩)), l1, f1⟩ : Kid Int) by unfold pay; rw [← HK1.out],
          show (#[Value.int IntKind.i64 k2, .iface (ty h) (.pointer (some ⟨kb, 0, none⟩))] : Array Value).toList = pay (⟨.iface (ty h) (.pointer (some ⟨kb, 0, none⟩)), l2, f2⟩ : Kid Int) by unfold pay; rw [← HK2.out], e]
        simp
      have HW8' := Lib.hid (L8 ▸ HW8)
      clear hb7 hU8 HB7 HW7' H7a HW8 L8 hqn1 hqn2 hqn3 hqn4 hqn5 hw1
      by_cases hsp : n < 32
      · go_wp2
        go_ret2
        have HC := bclose2 (I := Iii) (l' := LL) (w := w) (S := S) (ks := ks) (c := x) (c1 := (⟨.iface (ty h) (.pointer (some ⟨ka, 0, none⟩)), l1, f1⟩ : Kid Int)) (c2 := (⟨.iface (ty h) (.pointer (some ⟨kb, 0, none⟩)), l2, f2⟩ : Kid Int)) (frm_below hF HB8.out) (gCell HB8.out qr) (gFrozen HB8.out qlt qf) HW8'.out (by omega) (by rw [HN.out]; exact hb8) gsz HX.out (by rw [HN.out]; exact hsp) (fun c hc => (HKW.out c hc).plus hS gsz HB8.out) (HLAT.out w8 HB8.out) (HLAT2.out w8 HB8.out) HF12.out rfl rfl (by rw [HLL.out, ← HL12.out])
        rw [HN.out] at HC
        exact HC
      · obtain rfl : n = 32 := by omega
        have hb9 := alloc_cell (.cells #[.slice (some ⟨wc.heap.size + 1, 0, none⟩) 16 16] 304) hb8
        go_wp2
        go_ret2
        have HC := bclose3 (I := Iii) (l' := LL) (w := w) hS (ks := ks) (c := x) (c1 := (⟨.iface (ty h) (.pointer (some ⟨ka, 0, none⟩)), l1, f1⟩ : Kid Int)) (c2 := (⟨.iface (ty h) (.pointer (some ⟨kb, 0, none⟩)), l2, f2⟩ : Kid Int)) (T := 304) (frm_below hF HB8.out) (gCell HB8.out qr) (gFrozen HB8.out qlt qf) HW8'.out (by omega) HX.out (by rw [HN.out]) (fun c hc => (HKW.out c hc).plus hS gsz HB8.out) (HLAT.out w8 HB8.out) (HLAT2.out w8 HB8.out) HF12.out rfl rfl (by rw [HLL.out, ← HL12.out])
        rw [HN.out] at HC
        exact HC
end Nii
end Go.Proofs.YtfejflhgaphilaaGreatDoor

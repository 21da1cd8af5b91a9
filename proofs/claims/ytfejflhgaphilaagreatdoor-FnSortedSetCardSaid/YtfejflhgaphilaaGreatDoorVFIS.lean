/-
  THE WALKS of any node's set (and, for a set's tree, get and delete), instance is.
  THE WALKS of newSortedMapBranchNode, and of a map's clone, instance is.
  A MAP IN THE WORLD, and the walk of its set, instance is.
  THE WALKS of a map's Set, NewSortedMap, Len (and, for a set's map, Get and Delete), instance is.
-/
import Derived.Test.YtfejflhgaphilaaGreatDoorVRIS
import Derived.Test.YtfejflhgaphilaaGreatDoorVC
import Derived.Deep.LoopGhost
set_option linter.all false
set_option linter.unusedVariables false
set_option linter.unusedSimpArgs false
set_option linter.unusedSectionVars false
namespace Go.Proofs.YtfejflhgaphilaaGreatDoor
open Go.RowKit Go.Sort Lst
namespace Nis

/-- Any node's set. -/
theorem node_set (kk nn : Int) (cv : Value) (hc : OK kk nn cv) (k : Int) (hk : WfI k) (v : Int) (S : Nat → Prop) (r : Nat) (rz : Bool) (hSr : ¬ S r) :
    ∀ (h a : Nat) (l : List (Int × Int)) (x : Nat) (w : World), Node Iis w S h (.iface (ty h) (.pointer (some ⟨a, 0, none⟩))) l x → (∀ x, S x → x < w.heap.size) → w.cell? ⟨r, 0, none⟩ = some (.bool rz) → w.frozen? ⟨r, 0, none⟩ = false →
      Srt (c kk nn) l → (∀ p ∈ l, WfI p.1) →
      Calls Tryz.prog (fSet h) #[.pointer (some ⟨a, 0, none⟩), Value.int IntKind.i64 k, val v, cv, .bool false, .pointer (some ⟨r, 0, none⟩)] w (SetRes Iis w S r (rz || !has (f kk nn k) l) h (ins (f kk nn k) (k, v) l) x)
  | 0, a, l, x, w, ⟨a', b, o, cap, h1, hSa, hSb, h4, hcap, _, h0, h32, hx, hR, _⟩, hS, hr, hrf, hs, hwf => by
    injection h1 with _ h1
    injection h1 with h1
    injection h1 with h1
    injection h1 with h1 _ _
    subst h1 hx
    exact leafset kk nn cv hc a b o cap l k v w h4 hR h32 hs hwf hk r rz hr hrf S hS hSr hSa hSb hcap
  | h + 1, a, l, x, w, ⟨a', b, o, cap, ks, h1, hSa, hSb, h4, hcap, _, h0, h32, hl, hx, hR, hks⟩, hS, hr, hrf, hs, hwf => by
    injection h1 with _ h1
    injection h1 with h1
    injection h1 with h1
    injection h1 with h1 _ _
    subst h1 hx hl
    exact brset h kk nn cv hc a b o cap ks k v w h4 hR h32 h0 hcap hs (fun c hc p hp => hwf p (List.mem_flatten.2 ⟨c.l, List.mem_map.2 ⟨c, hc, rfl⟩, hp⟩)) hk r rz hr hrf S hS hSr hSa hSb hks
      (fun ca l' x' W hn hS' hr' hrf' hs' hwf' => node_set kk nn cv hc k hk v S r rz hSr h ca l' x' W hn hS' hr' hrf' hs' hwf')

def fGet : Nat → FuncId | 0 => 232 | _ + 1 => 238
theorem meGet : ∀ (h a : Nat) (w : World), (method 474 (ty h) (.pointer (some ⟨a, 0, none⟩)) "pub-bracken/pub/immutable.get").run Tryz.prog w = .ok (fGet h, .pointer (some ⟨a, 0, none⟩)) w
  | 0, _, _ => by kernel_rfl
  | _ + 1, _, _ => by kernel_rfl
theorem enGet : ∀ (h : Nat) (args : Array Value) (w : World), (callFunc (fGet h) args).run Tryz.prog w = .ok (.enter (fGet h) args) w
  | 0 => enters_of Tryz.func232 (by kernel_rfl) rfl
  | _ + 1 => enters_of Tryz.func238 (by kernel_rfl) rfl

set_option maxHeartbeats 2000000 in
theorem brget (h : Nat) (kk nn : Int) (cv : Value) (hc : OK kk nn cv) (a b o cap : Nat) (ks : List (Kid Int)) (k : Int) (w : World)
    (h4 : w.cell? ⟨a, 0, none⟩ = some (.slice (some ⟨b, o, none⟩) ks.length cap)) (hR : Row w b o (ks.flatMap pay)) (hl : ks.length ≤ 32) (h0 : 0 < ks.length)
    (hs : Srt (c kk nn) (ks.map (·.l)).flatten) (hwf : ∀ c ∈ ks, ∀ p ∈ c.l, WfI p.1) (hk : WfI k) (S : Nat → Prop) (hS : ∀ x, S x → x < w.heap.size)
    (hks : ∀ c ∈ ks, Node Iis w S h c.v c.l c.f)
    (IH : ∀ (ca : Nat) (l : List (Int × Int)) (x : Nat) (W : World), Node Iis W S h (.iface (ty h) (.pointer (some ⟨ca, 0, none⟩))) l x → (∀ x, S x → x < W.heap.size) → Srt (c kk nn) l → (∀ p ∈ l, WfI p.1) →
      Calls Tryz.prog (fGet h) #[.pointer (some ⟨ca, 0, none⟩), Value.int IntKind.i64 k, cv] W fun e w' => e = .returned (.tuple #[.agg #[], .bool (has (f kk nn k) l)]) ∧ Below W.heap.size W w') :
    Calls Tryz.prog 238 #[.pointer (some ⟨a, 0, none⟩), Value.int IntKind.i64 k, cv] w fun e w' => e = .returned (.tuple #[.agg #[], .bool (has (f kk nn k) (ks.map (·.l)).flatten)]) ∧ Below w.heap.size w w' := by
  have hne : ∀ c ∈ ks, c.l ≠ [] := fun c hc => (hks c hc).ne
  have IDX := fun W (hW : Below w.heap.size w W) => bridx kk nn _ hc a b o cap ks k W (gCell hW h4) (hR.grow hW) hl hs hne hwf hk
  obtain ⟨x, hx, hq, hA, hB⟩ := br_mid kk nn k hs hne h0
  have hxm := List.mem_of_getElem? hx
  have hflat : (ks.map (·.l)).flatten = ((ks.take (bi kk nn k ks)).map (·.l)).flatten ++ x.l ++ ((ks.drop (bi kk nn k ks + 1)).map (·.l)).flatten := by
    have h1 : (ks.map (·.l)).flatten = ((ks.take (bi kk nn k ks) ++ x :: ks.drop (bi kk nn k ks + 1)).map (·.l)).flatten := by rw [← kids_split hx]
    rw [h1]; simp
  have hxs : Srt (c kk nn) x.l := (List.pairwise_flatten.1 hs).1 _ (List.mem_map.2 ⟨x, hxm, rfl⟩)
  have hhas := has_mid hA hB (li := x.l)
  rw [← hflat] at hhas
  obtain ⟨ca, hca⟩ := node_ptr (hks x hxm)
  have CALL : ∀ W, Below w.heap.size w W → Calls Tryz.prog (fGet h) #[.pointer (some ⟨ca, 0, none⟩), Value.int IntKind.i64 k, cv] W fun e w' => e = .returned (.tuple #[.agg #[], .bool (has (f kk nn k) x.l)]) ∧ Below W.heap.size W w' := fun W hW =>
    IH ca x.l x.f W (hca ▸ (hks x hxm).keep (fun _ h => h) fun y hy => hW.block y (hS y hy)) (fun y hy => Nat.lt_of_lt_of_le (hS y hy) hW.size) hxs (hwf x hxm)
  have h5 : w.cell? ⟨b, o + (bi kk nn k ks * 2 + 1), none⟩ = some (.iface (ty h) (.pointer (some ⟨ca, 0, none⟩))) := by
    rw [← hca]; exact hR _ _ (flat_get pay_len hx (j := 1) (by decide))
  rw [← Nat.add_assoc] at h5
  obtain ⟨ct, cx, cfc, crv, rfl, _⟩ := id hc
  have m0 := meGet h ca
  have eg0 := enGet h
  rw [hhas]
  have HI := Lib.hid IDX
  have HC := Lib.hid CALL
  clear IDX CALL IH hc hs hwf hxs hflat hhas hA hB hne h0 hks hca hxm hx
  generalize hfc : fGet h = fd at *
  clear hfc
  generalize has (f kk nn k) x.l = hx at *
  generalize bi kk nn k ks = q at *
  generalize hn : ks.length = n at *
  have hq' : (q : Int) < (n : Int) := by omega
  go_enter Tryz.func238, Tryz.ntmps238
  go_upto_region 2 with (go_at_call 239; refine (HI.out _ (gNew _ _)).mono ?_; rintro e w1 ⟨rfl, hB1⟩)
  have hB2 := gTrans (gNew _ _) hB1
  have q4 := gCell hB2 h4
  have q5 := gCell hB2 h5
  have HCW := Lib.hid (HC.out w1 hB2)
  have HB2 := Lib.hid hB2
  clear HI HC h4 h5 hB1 hB2
  go_wp2_with (go_at_fn fd; refine HCW.out.mono ?_; rintro e w2 ⟨rfl, hB3⟩)
  exact bodyPost_ret (v := .tuple #[.agg #[], .bool hx]) (by simp [results, Tryz.results238, go_sem]) rfl ⟨rfl, gTrans HB2.out hB3⟩

/-- Any node's get. -/
theorem node_get (kk nn : Int) (cv : Value) (hc : OK kk nn cv) (k : Int) (hk : WfI k) (S : Nat → Prop) :
    ∀ (h a : Nat) (l : List (Int × Int)) (x : Nat) (w : World), Node Iis w S h (.iface (ty h) (.pointer (some ⟨a, 0, none⟩))) l x → (∀ x, S x → x < w.heap.size) →
      Srt (c kk nn) l → (∀ p ∈ l, WfI p.1) →
      Calls Tryz.prog (fGet h) #[.pointer (some ⟨a, 0, none⟩), Value.int IntKind.i64 k, cv] w fun e w' => e = .returned (.tuple #[.agg #[], .bool (has (f kk nn k) l)]) ∧ Below w.heap.size w w'
  | 0, a, l, x, w, ⟨a', b, o, cap, h1, hSa, hSb, h4, hcap, _, h0, h32, hx, hR, cs, fr, hE⟩, hS, hs, hwf => by
    injection h1 with _ h1
    injection h1 with h1
    injection h1 with h1
    injection h1 with h1 _ _
    subst h1
    exact leafget kk nn cv hc a b o cap l k w h4 hR h32 hs hwf hk cs fr hE
  | h + 1, a, l, x, w, ⟨a', b, o, cap, ks, h1, hSa, hSb, h4, hcap, _, h0, h32, hl, hx, hR, hks⟩, hS, hs, hwf => by
    injection h1 with _ h1
    injection h1 with h1
    injection h1 with h1
    injection h1 with h1 _ _
    subst h1 hl
    exact brget h kk nn cv hc a b o cap ks k w h4 hR h32 h0 hs (fun c hc p hp => hwf p (List.mem_flatten.2 ⟨c.l, List.mem_map.2 ⟨c, hc, rfl⟩, hp⟩)) hk S hS hks
      (fun ca l' x' W hn hS' hs' hwf' => node_get kk nn cv hc k hk S h ca l' x' W hn hS' hs' hwf')

/-- Any node's delete. -/
theorem node_del (kk nn : Int) (cv : Value) (hc : OK kk nn cv) (k : Int) (hk : WfI k) (S : Nat → Prop) (r : Nat) (hSr : ¬ S r) :
    ∀ (h a : Nat) (l : List (Int × Int)) (x : Nat) (w : World), Node Iis w S h (.iface (ty h) (.pointer (some ⟨a, 0, none⟩))) l x → (∀ x, S x → x < w.heap.size) → w.cell? ⟨r, 0, none⟩ = some (.bool false) → w.frozen? ⟨r, 0, none⟩ = false →
      Srt (c kk nn) l → (∀ p ∈ l, WfI p.1) →
      Calls Tryz.prog (fDel h) #[.pointer (some ⟨a, 0, none⟩), Value.int IntKind.i64 k, cv, .bool false, .pointer (some ⟨r, 0, none⟩)] w
        (DelRes Iis w S r (has (f kk nn k) l) h (.iface (ty h) (.pointer (some ⟨a, 0, none⟩))) (has (f kk nn k) l) (del (f kk nn k) l) x)
  | 0, a, l, x, w, ⟨a', b, o, cap, h1, hSa, hSb, h4, hcap, _, h0, h32, hx, hR, _⟩, hS, hr, hrf, hs, hwf => by
    injection h1 with _ h1
    injection h1 with h1
    injection h1 with h1
    injection h1 with h1 _ _
    subst h1 hx
    have := leafdel kk nn cv hc a b o cap l k w h4 hR h32 hs hwf hk r false hr hrf S hS hSr hSa hSb hcap
    rw [Bool.false_or] at this
    exact this
  | h + 1, a, l, x, w, ⟨a', b, o, cap, ks, h1, hSa, hSb, h4, hcap, _, h0, h32, hl, hx, hR, hks⟩, hS, hr, hrf, hs, hwf => by
    injection h1 with _ h1
    injection h1 with h1
    injection h1 with h1
    injection h1 with h1 _ _
    subst h1 hx hl
    exact brdel h kk nn cv hc a b o cap ks k w h4 hR h32 h0 hcap hs (fun c hc p hp => hwf p (List.mem_flatten.2 ⟨c.l, List.mem_map.2 ⟨c, hc, rfl⟩, hp⟩)) hk r hr hrf S hS hSr hSa hSb hks
      (fun ca l' x' W hn hS' hr' hrf' hs' hwf' => node_del kk nn cv hc k hk S r hSr h ca l' x' W hn hS' hr' hrf' hs' hwf')
end Nis
end Go.Proofs.YtfejflhgaphilaaGreatDoor

namespace Go.Proofs.YtfejflhgaphilaaGreatDoor
open Go.RowKit Go.Sort Lst
namespace Nis

set_option maxHeartbeats 4000000 in
theorem newbranch (h : Nat) (ks : List (Kid Int)) (b o cap : Nat) (w : World) (S : Nat → Prop) (hS : ∀ x, S x → x < w.heap.size) (hcell : ∀ i c, ks[i]? = some c → w.cell? ⟨b, o + i, none⟩ = some c.v)
    (h0 : 0 < ks.length) (h32 : ks.length ≤ 32) (hks : ∀ c ∈ ks, Node Iis w S h c.v c.l c.f) :
    Calls Tryz.prog 162 #[.slice (some ⟨b, o, none⟩) ks.length cap] w fun e w' => ∃ p, e = .returned (.pointer (some ⟨p, 0, none⟩)) ∧ Below w.heap.size w w' ∧
      Node Iis w' (Plus S w w') (h + 1) (.iface 273 (.pointer (some ⟨p, 0, none⟩))) (ks.map (·.l)).flatten ((ks.map (·.f)).sum + 16 ^ (h + 1) * (ks.length - 17)) := by
  obtain ⟨i0, hi, hz0, hz1, hz2⟩ := info_parts infoB
  have HKS := Lib.hid hks
  have HCE := Lib.hid hcell
  generalize hn : ks.length = n at *
  have HN := Lib.hid hn
  clear hn hks hcell
  go_enter Tryz.func162, Tryz.ntmps162
  go_wp2_with (at_make; refine wpList_makeN rfl _ _ 334 rfl 337 i0 _ 2 24 Tryz.underlying334 hi hz0 hz1 hz2 _ _ _ _ n rfl rfl (by omega) (by omega) (by omega) (by omega) ?_; intro w3 cur hcl HW hB3 hs3)
  have HCL := Lib.hid hcl
  have HW3 := Lib.hid HW
  have HB3 := Lib.hid hB3
  have HS3 := Lib.hid hs3
  clear hcl HW hB3 hs3
  go_loopg [11] n (fun k s11 wr => ∃ i : Nat, i + k = n ∧ s11 = .int .i64 i ∧ Below w.heap.size w wr ∧ Whole wr w.heap.size ((ks.take i).flatMap pay ++ cur.drop (i * 2)) 337 ∧ wr.heap.size = w.heap.size + 1)
  case atStart => exact ⟨0, by omega, rfl, HB3.out, by simpa using HW3.out, HS3.out⟩
  case round =>
    obtain ⟨i, hik, rfl, hB, hW, hsz⟩ := hrel
    cases gk with
    | zero =>
      obtain rfl : i = n := by omega
      go_wp2
      go_ret
      have e : (ks.take i).flatMap pay ++ cur.drop (i * 2) = ks.flatMap pay := by
        rw [List.take_of_length_le (Nat.le_of_eq HN.out), List.drop_of_length_le (Nat.le_of_eq HCL.out), List.append_nil]
      rw [e] at hW
      obtain ⟨hB4, HW4, hb4⟩ := box_over w wr (.slice (some ⟨w.heap.size, 0, none⟩) i i) 339 hB hW hsz
      refine ⟨_, rfl, hB4, ?_⟩
      have hn := branch_new (I := Iis) (S := Plus S w (wr.alloc (.cells #[.slice (some ⟨w.heap.size, 0, none⟩) i i] 339))) (h := h) (cap := i) (ks := ks) (a := w.heap.size + 1) (g := w.heap.size) (o := 0) (by rw [HN.out]; exact hb4) HW4.row (.inr ⟨by omega, by simp; omega⟩) (.inr ⟨by omega, by simp; omega⟩) (Nat.le_of_eq HN.out) (by omega) (by rw [HN.out]; exact h0) (by rw [HN.out]; exact h32)
        (fun c hc => (HKS.out c hc).keep (fun x hx => .inl hx) fun y hy => hB4.block y (hS y hy))
      rw [HN.out] at hn
      exact hn
    | succ k =>
      have hlt : i < n := by omega
      obtain ⟨c, hc⟩ : ∃ c, ks[i]? = some c := ⟨_, List.getElem?_eq_getElem (by rw [HN.out]; exact hlt)⟩
      have hcm := List.mem_of_getElem? hc
      have hnode := (HKS.out c hcm).keep (fun _ h => h) fun y hy => hB.block y (hS y hy)
      have hne := hnode.ne
      obtain ⟨ka, hv⟩ := node_ptr hnode
      obtain ⟨k1, hK1⟩ := key_is hne
      have hmin := node_min h ka c.l c.f (hv ▸ hnode)
      rw [hK1] at hmin
      have m1 := meMin h ka
      have eg := enMin h
      have q5 := gCell hB (HCE.out i c hc)
      rw [hv] at q5
      have hilt : (i : Int) < (n : Int) := by omega
      have hL : ((ks.take i).flatMap pay).length = i * 2 := by rw [flat_len pay_len, List.length_take, HN.out, Nat.min_eq_left (Nat.le_of_lt hlt)]
      have hfit : i * 2 + (#[Value.int IntKind.i64 k1, .iface (ty h) (.pointer (some ⟨ka, 0, none⟩))] : Array Value).size ≤ ((ks.take i).flatMap pay ++ cur.drop (i * 2)).length := by
        simp only [List.length_append, hL, List.length_drop, HCL.out]; simp; omega
      have hnew : splice ((ks.take i).flatMap pay ++ cur.drop (i * 2)) (i * 2) (#[Value.int IntKind.i64 k1, .iface (ty h) (.pointer (some ⟨ka, 0, none⟩))] : Array Value).toList = (ks.take (i + 1)).flatMap pay ++ cur.drop ((i + 1) * 2) := by
        rw [show (#[Value.int IntKind.i64 k1, .iface (ty h) (.pointer (some ⟨ka, 0, none⟩))] : Array Value).toList = pay c by unfold pay; rw [hK1, hv], fill_step hL (pay_len c) (by rw [HCL.out]; omega), show (i + 1) * 2 = i * 2 + 2 by omega,
          List.take_succ_eq_append_getElem (by rw [HN.out]; exact hlt), List.flatMap_append, (List.getElem?_eq_some_iff.1 hc).2]
        simp
      have HMIN := Lib.hid hmin
      have HB := Lib.hid hB
      have HW := Lib.hid hW
      have HSZ := Lib.hid hsz
      have HFIT := Lib.hid hfit
      have HNEW := Lib.hid hnew
      have HIK := Lib.hid hik
      clear hmin hB hW hsz hc hcm hnode hne hv hK1 hL hfit hnew hik
      generalize hfm : fMin h = fm at *
      clear hfm
      go_wp2_with (first | (go_at_fn fm; refine HMIN.out.mono ?_; rintro e w' ⟨rfl, rfl⟩) | ((with_reducible refine at_store 22 21 ?_); refine wpList_storeN rfl _ _ _ rfl w.heap.size (i * 2) #[Value.int IntKind.i64 k1, .iface (ty h) (.pointer (some ⟨ka, 0, none⟩))] (by first | rfl | simp [Act.eval]) rfl _ 337 HW.out (by kernel_rfl) HFIT.out (by intro u hu; simp at hu; rcases hu with rfl | rfl <;> rfl) ?_; intro w5 HW5 hU5))
      go_roundg k
      case measure => omega
      case rel =>
        rw [HNEW.out] at HW5
        exact ⟨i + 1, by have := HIK.out; omega, by simp, below_upd HB.out hU5 (Nat.le_refl _), HW5, by rw [hU5.size]; exact HSZ.out⟩

set_option maxHeartbeats 1000000 in
/-- A copy of a map's three cells. -/
theorem mapclone (p : Nat) (n : Int) (root cv : Value) (w : World) (h0 : w.cell? ⟨p, 0, none⟩ = some (.int .i64 n)) (h1 : w.cell? ⟨p, 1, none⟩ = some root) (h2 : w.cell? ⟨p, 2, none⟩ = some cv) (o1 : root.oneCell' = true) (o2 : cv.oneCell' = true) :
    Calls Tryz.prog 161 #[.pointer (some ⟨p, 0, none⟩)] w fun e w' => e = .returned (.pointer (some ⟨w.heap.size, 0, none⟩)) ∧ Below w.heap.size w w' ∧ Whole w' w.heap.size [.int .i64 n, root, cv] 262 ∧ w'.heap.size = w.heap.size + 1 := by
  have hW := box_news w #[.int .i64 0, .nilIface, .nilIface] 262
  have hB := gNew w (.cells #[.int .i64 0, .nilIface, .nilIface] 262)
  go_enter Tryz.func161, Tryz.ntmps161
  go_wp2_with ((with_reducible refine at_store 3 6 ?_); refine wpList_storeN rfl _ _ _ rfl w.heap.size 0 #[.int .i64 n, root, cv] rfl rfl _ 262 hW (by kernel_rfl) (by simp) (by intro u hu; simp at hu; rcases hu with rfl | rfl | rfl <;> first | rfl | assumption) ?_; intro w3 HW hU)
  go_ret
  exact ⟨rfl, below_upd hB hU (Nat.le_refl _), HW, by rw [hU.size]; simp⟩
end Nis
end Go.Proofs.YtfejflhgaphilaaGreatDoor

namespace Go.Proofs.YtfejflhgaphilaaGreatDoor
open Go.RowKit Go.Sort Lst
namespace Nis

/-- A comparer, or none where the package's own one is meant. -/
def Cmpr (kk nn : Int) (cv : Value) : Prop := (kk = 0 ∧ cv = .nilIface) ∨ OK kk nn cv

/-- At block p lies a map whose pairs are l; its tree lies in S; N keys at most were put into it. -/
def MapAt (kk nn : Int) (w : World) (S : Nat → Prop) (p N : Nat) (l : List (Int × Int)) : Prop :=
  ∃ root cv, w.cell? ⟨p, 0, none⟩ = some (.int .i64 l.length) ∧ w.cell? ⟨p, 1, none⟩ = some root ∧ w.cell? ⟨p, 2, none⟩ = some cv ∧ S p ∧ Srt (c kk nn) l ∧ (∀ q ∈ l, WfI q.1) ∧
    ((root = .nilIface ∧ l = [] ∧ Cmpr kk nn cv) ∨
     (OK kk nn cv ∧ ∃ (h a f : Nat), root = .iface (ty h) (.pointer (some ⟨a, 0, none⟩)) ∧ Node Iis w S h root l f ∧ f + 16 ^ h ≤ N))

theorem MapAt.keep {kk nn : Int} {w w' : World} {S S' : Nat → Prop} {p N : Nat} {l : List (Int × Int)} (h : MapAt kk nn w S p N l) (hS : ∀ b, S b → S' b) (hw : ∀ b, S b → w'.heap[b]? = w.heap[b]?) : MapAt kk nn w' S' p N l := by
  obtain ⟨root, cv, h0, h1, h2, h3, h4, h5, h6⟩ := h
  refine ⟨root, cv, cell_block (hw _ h3) h0, cell_block (hw _ h3) h1, cell_block (hw _ h3) h2, hS _ h3, h4, h5, h6.imp id ?_⟩
  rintro ⟨h7, h, a, f, h8, h9, h10⟩
  exact ⟨h7, h, a, f, h8, h9.keep hS hw, h10⟩

theorem MapAt.more {kk nn : Int} {w : World} {S : Nat → Prop} {p N M : Nat} {l : List (Int × Int)} (h : MapAt kk nn w S p N l) (hN : N ≤ M) : MapAt kk nn w S p M l := by
  obtain ⟨root, cv, h0, h1, h2, h3, h4, h5, h6⟩ := h
  exact ⟨root, cv, h0, h1, h2, h3, h4, h5, h6.imp id fun ⟨h7, h, a, f, h8, h9, h10⟩ => ⟨h7, h, a, f, h8, h9, by omega⟩⟩

theorem okDef (nn : Int) (a : Addr) : OK 0 nn (.iface 331 (.pointer (some a))) := cmpOK_int (.inl ⟨rfl, a, rfl⟩)

theorem ok_one {kk nn : Int} {cv : Value} (h : OK kk nn cv) : cv.oneCell' = true := by
  obtain ⟨ct, cx, _, _, rfl, _⟩ := h
  rfl

theorem mem_ins {f : Int × Int → Int} {x q : Int × Int} {l : List (Int × Int)} (h : q ∈ ins f x l) : q = x ∨ q ∈ l := by
  unfold ins at h
  rcases List.mem_append.1 h with h | h
  · exact .inr (List.mem_of_mem_take h)
  · rcases List.mem_cons.1 h with h | h
    · exact .inl h
    · exact .inr (List.mem_of_mem_drop h)

/-- The root that a set leaves. -/
def Root (kk nn : Int) (w : World) (S : Nat → Prop) (r : Nat) (b : Bool) (N : Nat) (l' : List (Int × Int)) (s12 : Value) (w' : World) : Prop :=
  w.grownBy w' (some r) ∧ w'.cell? ⟨r, 0, none⟩ = some (.bool b) ∧ ∃ h a f, s12 = .iface (ty h) (.pointer (some ⟨a, 0, none⟩)) ∧ Node Iis w' (Plus S w w') h s12 l' f ∧ f + 16 ^ h ≤ N

set_option maxHeartbeats 4000000 in
set_option maxRecDepth 100000 in
theorem mapset (kk nn : Int) (k : Int) (hk : WfI k) (v : Int) (S : Nat → Prop) (w : World) (hS : ∀ x, S x → x < w.heap.size) (p N : Nat) (l : List (Int × Int)) (hM : MapAt kk nn w S p N l) (hlen : l.length < 9223372036854775807) :
    Calls Tryz.prog 114 #[.pointer (some ⟨p, 0, none⟩), Value.int IntKind.i64 k, val v, .bool false] w fun e w' => ∃ p', e = .returned (.pointer (some ⟨p', 0, none⟩)) ∧ Below w.heap.size w w' ∧ MapAt kk nn w' (Plus S w w') p' (N + 1) (ins (f kk nn k) (k, v) l) := by
  obtain ⟨root, cv, h0, h1, h2, hSp, hs, hwf, hD⟩ := hM
  have hC : Cmpr kk nn cv := by
    rcases hD with ⟨_, _, h⟩ | ⟨h, _⟩
    · exact h
    · exact .inr h
  have hpl := hS p hSp
  have o1 : root.oneCell' = true := by
    rcases hD with ⟨rfl, _⟩ | ⟨_, h, a, f, rfl, _⟩ <;> rfl
  have o2 : cv.oneCell' = true := by
    rcases hC with ⟨_, rfl⟩ | h
    · rfl
    · exact ok_one h
  have HCLONE : Hid (∀ W, Below w.heap.size w W → Calls Tryz.prog 161 #[.pointer (some ⟨p, 0, none⟩)] W fun e w' => e = .returned (.pointer (some ⟨W.heap.size, 0, none⟩)) ∧ Below W.heap.size W w' ∧ Whole w' W.heap.size [.int .i64 l.length, root, cv] 262 ∧ w'.heap.size = W.heap.size + 1) :=
    fun W hW => mapclone p l.length root cv W (gCell hW h0) (gCell hW h1) (gCell hW h2) o1 o2
  have HSRT := Lib.hid hs
  have HWF := Lib.hid hwf
  have HD := Lib.hid hD
  have HC := Lib.hid hC
  have H0 := Lib.hid h0
  have H1 := Lib.hid h1
  have hins : Hid (Srt (c kk nn) (ins (f kk nn k) (k, v) l)) := srt_ins (ordc kk nn) hs (k, v)
  clear o1 o2 hs hwf hD hC
  go_enter Tryz.func114, Tryz.ntmps114
  have g0 := gCell (gNew w (.cells #[] 157)) h0
  have g1 := gCell (gNew w (.cells #[] 157)) h1
  have g2 := gCell (gNew w (.cells #[] 157)) h2
  go_upto_region 2 with (fail)
  have hBw : Below w.heap.size w (w.alloc (.cells #[] 157)) := gNew _ _
  clear g0 g1 g2
  generalize w.alloc (.cells #[] 157) = wa at *
  have HBW := Lib.hid hBw
  clear hBw h0 h1 h2
  go_cut [19] (fun s19 wx => ∃ z : Bool, s19 = .bool z ∧ Below w.heap.size w wx ∧ (z = true → kk = 0) ∧ (z = false → OK kk nn cv))
  case first =>
    rcases HC.out with ⟨hk0, hcv⟩ | hok
    · subst hcv
      have HK0 := Lib.hid hk0
      clear hk0
      go_wp2_with fail
      go_meet
      exact ⟨true, rfl, HBW.out, fun _ => HK0.out, fun h => (by cases h)⟩
    · obtain ⟨ct, cx, fc, rv, hcv, _⟩ := id hok
      have HO := Lib.hid hok
      subst hcv
      clear hok
      go_wp2_with fail
      go_meet
      exact ⟨false, rfl, HBW.out, fun h => (by cases h), fun _ => HO.out⟩
  case rest =>
  obtain ⟨z, rfl, hBw, hz1, hz2⟩ := hcut
  clear HBW
  have HBW := Lib.hid hBw
  clear hBw
  have HZ1 := Lib.hid hz1
  have HZ2 := Lib.hid hz2
  clear hz1 hz2
  go_upto_if 19 with fail
  go_cut [9] (fun s9 wx => OK kk nn s9 ∧ Below w.heap.size w wx)
  case first =>
    cases z with
    | true =>
      go_wp2_with (go_at_call 160; refine (newcomparer_int_any _ _).mono ?_; rintro e w1 ⟨rfl, hB1, hs1⟩)
      go_meet
      exact ⟨HZ1.out (by simp) ▸ okDef _ _, gTrans HBW.out hB1⟩
    | false =>
      go_wp2_with fail
      go_meet
      exact ⟨HZ2.out (by simp), HBW.out⟩
  case rest =>
    obtain ⟨hok, hBc⟩ := hcut
    obtain ⟨ct, cx, cfc, crv, rfl, hrest⟩ := id hok
    clear hrest
    have HOK := Lib.hid hok
    have HBC := Lib.hid hBc
    have hcl := HCLONE.out wc hBc
    have HCL := Lib.hid hcl
    have hgw : w.heap.size ≤ wc.heap.size := hBc.size
    clear HC HZ1 HZ2 HBW hcl HCLONE hok hBc
    go_upto_region 7 with (go_at_call 161; refine HCL.out.mono ?_; rintro e w2 ⟨rfl, hB2, hW2, hs2⟩)
    have q2 := hW2.cell (j := 2) rfl
    have f2 := hW2.frozen 2
    go_upto_region 8 with (fail)
    obtain ⟨hW3, hU3⟩ := whole_set hW2 (.iface ct cx) (i := 2) (by simp)
    have hB3 := gTrans HBC.out (below_upd hB2 hU3 (Nat.le_refl _))
    have hs3 := hU3.size.trans hs2
    clear q2 f2
    generalize w2.setCell ⟨wc.heap.size, 2, none⟩ (.iface ct cx) = w3 at *
    change Whole w3 wc.heap.size [.int .i64 l.length, root, .iface ct cx] 262 at hW3
    generalize hg : wc.heap.size = g at *
    have HG := Lib.hid hg
    clear hg hU3 hW2 hs2 hB2 HCL HBC
    have h0 := gCell hB3 H0.out
    have h1 := gCell hB3 H1.out
    have hlen' : ((l.length : Int) + 1) ≤ 9223372036854775807 := by omega
    rcases HD.out with ⟨hroot, hl, _⟩ | ⟨_, h, ra, f0, hroot, hnode, hf0⟩
    · subst hroot hl
      clear HD
      have q0 := hW3.cell (j := 0) rfl
      have f0 := hW3.frozen 0
      go_upto_region 10 with (fail)
      obtain ⟨hW4, hU4⟩ := whole_set hW3 (.int .i64 1) (i := 0) (by simp)
      have hB4 := below_upd hB3 hU4 hgw
      have hs4 := hU4.size.trans hs3
      clear q0 f0 hU4 hB3 hs3 hW3
      generalize w3.setCell ⟨g, 0, none⟩ (.int .i64 1) = w4 at *
      change Whole w4 g [.int .i64 1, .nilIface, .iface ct cx] 262 at hW4
      have hBa := gNew2 w4 (.cells #[Value.int IntKind.i64 k] 267) (.cells #[.slice (some ⟨g + 1, 0, none⟩) 1 1] 270)
      have hWa := hW4.grow hBa
      have q1 := hWa.cell (j := 1) rfl
      have f1 := hWa.frozen 1
      have hbl : Array.foldl (fun (cs : Array Value) (x : Value × Nat) => cs.setIfInBounds (1 + x.snd) x.fst) #[Value.int IntKind.i64 k] (#[] : Array Value).zipIdx 0 0 = #[Value.int IntKind.i64 k] := rfl
      go_upto_region 11 with (fail)
      obtain ⟨hWs, hUs⟩ := whole_set hW4 (.iface 265 (.pointer (some ⟨g + 1 + 1, 0, none⟩))) (i := 1) (by simp)
      have hBs := below_upd hB4 hUs hgw
      have hss := hUs.size.trans hs4
      clear hBa hWa q1 f1 hUs hB4 hW4
      generalize w4.setCell ⟨g, 1, none⟩ (.iface 265 (.pointer (some ⟨g + 1 + 1, 0, none⟩))) = ws at *
      have hBb := gNew2 ws (.cells #[Value.int IntKind.i64 k] 267) (.cells #[.slice (some ⟨g + 1, 0, none⟩) 1 1] 270)
      have hW5 := hWs.grow hBb
      have hR5 := (box_news ws #[Value.int IntKind.i64 k] 267).grow (gNew _ (.cells #[.slice (some ⟨g + 1, 0, none⟩) 1 1] 270))
      have hc5 := cell_new (ws.alloc (.cells #[Value.int IntKind.i64 k] 267)) (.slice (some ⟨g + 1, 0, none⟩) 1 1) 270
      have hB5 := gTrans hBs hBb
      have hs5 : ((ws.alloc (.cells #[Value.int IntKind.i64 k] 267)).alloc (.cells #[.slice (some ⟨g + 1, 0, none⟩) 1 1] 270)).heap.size = g + 1 + 1 + 1 := by rw [alloc_sz, alloc_sz, hss]
      rw [alloc_sz, hss] at hc5
      rw [hss] at hR5
      clear hBb hWs hBs
      generalize (ws.alloc (.cells #[Value.int IntKind.i64 k] 267)).alloc (.cells #[.slice (some ⟨g + 1, 0, none⟩) 1 1] 270) = w5 at *
      change Whole w5 g [.int .i64 1, .iface 265 (.pointer (some ⟨g + 1 + 1, 0, none⟩)), .iface ct cx] 262 at hW5
      have HW5 := Lib.hid hW5
      have HR5 := Lib.hid hR5
      have HC5 := Lib.hid hc5
      have HB5 := Lib.hid hB5
      have HS5 := Lib.hid hs5
      clear hW5 hR5 hc5 hB5 hs5 hs4 hss
      go_wp2
      go_ret
      have e1 : ins (f kk nn k) (k, v) [] = [(k, v)] := rfl
      have hR : Row w5 (g + 1) 0 ([(k, v)].flatMap Iis.ent) := HR5.out.row
      refine ⟨g, rfl, HB5.out, _, _, HW5.out.cell (j := 0) rfl, HW5.out.cell (j := 1) rfl, HW5.out.cell (j := 2) rfl, .inr ⟨hgw, by rw [HS5.out]; omega⟩, hins.out, ?_, .inr ⟨HOK.out, 0, g + 1 + 1, 0, rfl, ?_, by simp⟩⟩
      · intro q hq
        rw [e1] at hq
        simp at hq
        rw [hq]; exact hk
      · rw [e1]
        exact leaf_new (I := Iis) (l := [(k, v)]) HC5.out hR HR5.out (.inr ⟨by omega, by rw [HS5.out]; omega⟩) (.inr ⟨by omega, by rw [HS5.out]; omega⟩) (by simp) (by simp) (by simp) (by simp)
    · subst hroot
      have me := meSet h ra
      have en := enSet h
      have hLen := Lib.hid (length_ins (f kk nn k) (k, v) l)
      have hmem := Lib.hid (fun q hq => mem_ins (f := f kk nn k) (x := (k, v)) (l := l) (q := q) hq)
      have hBn := gNew w3 (.cells #[.bool false] 4)
      have hWn := hW3.grow hBn
      have hrn := cell_new w3 (.bool false) 4
      have hfn := (box_new w3 (.bool false) 4).frozen 0
      have h0n := gCell hBn h0
      have h1n := gCell hBn h1
      have hszn : (w3.alloc (.cells #[.bool false] 4)).heap.size = g + 1 + 1 := by rw [alloc_sz, hs3]
      have hBwn := gTrans hB3 hBn
      rw [hs3] at hrn hfn
      generalize hwn : w3.alloc (.cells #[.bool false] 4) = wn at *
      have HWN := Lib.hid hwn
      clear hwn
      have hSn : ∀ x, S x → x < wn.heap.size := fun x hx => Nat.lt_of_lt_of_le (hS x hx) hBwn.size
      have hSr : ¬ S (g + 1) := fun h => by have := hS _ h; omega
      have CALL : Hid (∀ W, Below wn.heap.size wn W → Calls Tryz.prog (fSet h) #[.pointer (some ⟨ra, 0, none⟩), Value.int IntKind.i64 k, val v, .iface ct cx, .bool false, .pointer (some ⟨g + 1, 0, none⟩)] W fun e w' => ∃ s15 s16, e = .returned (.tuple #[s15, s16]) ∧ Kids Iis wn S (g + 1) (false || !has (f kk nn k) l) h (ins (f kk nn k) (k, v) l) f0 s15 s16 w') := fun W hW =>
        (node_set kk nn _ HOK.out k hk v S (g + 1) false hSr h ra l f0 W (hnode.keep (fun _ h => h) fun y hy => (hW.block y (hSn y hy)).trans (hBwn.block y (hS y hy))) (fun x hx => Nat.lt_of_lt_of_le (hSn x hx) hW.size) (gCell hW hrn) (gFrozen hW (show g + 1 < wn.heap.size by omega) hfn) HSRT.out HWF.out).mono fun e w' => kids_of hW
      have HBWN := Lib.hid hBwn
      have HW3 := Lib.hid hWn
      have HSZN := Lib.hid hszn
      have HF0 := Lib.hid hf0
      have HSN := Lib.hid hSn
      clear hBn hWn hrn hfn hnode hf0 HD hB3 hBwn hszn hSn hW3
      generalize hli : ins (f kk nn k) (k, v) l = li at *
      generalize has (f kk nn k) l = hx at *
      generalize hfc : fSet h = fc at *
      have HLI := Lib.hid hli
      clear hfc hli
      rw [HWN.out.symm] at h0n h1n
      go_upto_region 13 with (fail)
      rw [HWN.out] at h0n h1n ⊢
      go_cut [12, 13] (fun s12 s13 wx => Kids Iis wn S (g + 1) (false || !hx) h li f0 s12 s13 wx)
      case first =>
        have HCW := Lib.hid (CALL.out wn.drew (gDrewN (gRefl wn) 1))
        have h1n' : wn.drew.cell? ⟨p, 1, none⟩ = some (.iface (ty h) (.pointer (some ⟨ra, 0, none⟩))) := h1n
        clear CALL
        go_region_with (go_at_fn fc; refine HCW.out.mono ?_; rintro e w' ⟨s15, s16, rfl, hK⟩)
        all_goals (go_wp2_with fail; go_meet; exact hK)
      case rest =>
      obtain ⟨hF, qr, qf, hK⟩ := hcut
      have HF := Lib.hid hF
      clear CALL me en
      go_upto_region 14 with (fail)
      go_cut [63] (fun s63 wy => ∃ z : Bool, s63 = .bool z ∧ wy = wc ∧ (z = false → Root kk nn wn S (g + 1) (!hx) (N + 1) li u12 wc) ∧ (z = true → ∃ (aa ab : Nat) (l1 l2 : List (Int × Int)) (f1 f2 : Nat), u12 = .iface (ty h) (.pointer (some ⟨aa, 0, none⟩)) ∧ u13 = .iface (ty h) (.pointer (some ⟨ab, 0, none⟩)) ∧
        l1 ++ l2 = li ∧ Node Iis wc (Plus S wn wc) h u12 l1 f1 ∧ Node Iis wc (Plus S wn wc) h u13 l2 f2 ∧ f1 + f2 + 16 ^ (h + 1) ≤ N + 1))
      case first =>
        rcases hK with ⟨hz, f1, hn1, hf1⟩ | ⟨l1, l2, f1, f2, hl12, hn1, hn2, hf12⟩
        · subst hz
          obtain ⟨aa, haa⟩ := node_ptr hn1
          have HR : Hid (Root kk nn wn S (g + 1) (!hx) (N + 1) li u12 wc) := ⟨hF, by rw [Bool.false_or] at qr; exact qr, h, aa, f1, haa, hn1, by have := HF0.out; omega⟩
          clear hn1 haa hF qr qf
          go_wp2_with fail
          go_meet
          exact ⟨false, rfl, rfl, fun _ => HR.out, fun h => (by cases h)⟩
        · obtain ⟨aa, haa⟩ := node_ptr hn1
          obtain ⟨ab, hab⟩ := node_ptr hn2
          have HR : Hid (∃ (aa ab : Nat) (l1 l2 : List (Int × Int)) (f1 f2 : Nat), u12 = .iface (ty h) (.pointer (some ⟨aa, 0, none⟩)) ∧ u13 = .iface (ty h) (.pointer (some ⟨ab, 0, none⟩)) ∧
            l1 ++ l2 = li ∧ Node Iis wc (Plus S wn wc) h u12 l1 f1 ∧ Node Iis wc (Plus S wn wc) h u13 l2 f2 ∧ f1 + f2 + 16 ^ (h + 1) ≤ N + 1) := ⟨aa, ab, l1, l2, f1, f2, haa, hab, hl12, hn1, hn2, by have := HF0.out; have := pow_pos16 h; omega⟩
          clear hn1 hn2 hl12 hf12 hF qr qf haa
          subst hab
          go_wp2_with fail
          go_meet
          exact ⟨true, rfl, rfl, fun h => (by cases h), fun _ => HR.out⟩
      case rest =>
      obtain ⟨z, rfl, rfl, hz1, hz2⟩ := hcut
      have HZ1 := Lib.hid hz1
      have HZ2 := Lib.hid hz2
      have HQR := Lib.hid qr
      have HQF := Lib.hid qf
      clear hz1 hz2 hK hF qr qf
      go_upto_if 63 with fail
      go_cut [12] (fun s12 wx => Root kk nn wn S (g + 1) (!hx) (N + 1) li s12 wx)
      case first =>
        cases z with
        | false =>
          have HR := Lib.hid (HZ1.out (by simp))
          clear HZ1 HZ2
          go_wp2_with fail
          go_meet
          exact HR.out
        | true =>
          obtain ⟨aa, ab, l1, l2, f1, f2, rfl, rfl, hl12, hn1, hn2, hf12⟩ := HZ2.out (by simp)
          clear HZ1 HZ2
          have hSc : ∀ x, Plus S wn wc x → x < wc.heap.size := fun x hx => by
            rcases hx with hx | ⟨_, hx⟩
            · exact Nat.lt_of_lt_of_le (HSN.out x hx) HF.out.size
            · exact hx
          have hBa := gNew wc (.cells #[.iface (ty h) (.pointer (some ⟨aa, 0, none⟩)), .iface (ty h) (.pointer (some ⟨ab, 0, none⟩))] 260)
          have hWa := box_news wc #[.iface (ty h) (.pointer (some ⟨aa, 0, none⟩)), .iface (ty h) (.pointer (some ⟨ab, 0, none⟩))] 260
          have hNB := newbranch h [⟨.iface (ty h) (.pointer (some ⟨aa, 0, none⟩)), l1, f1⟩, ⟨.iface (ty h) (.pointer (some ⟨ab, 0, none⟩)), l2, f2⟩] wc.heap.size 0 2 (wc.alloc (.cells #[.iface (ty h) (.pointer (some ⟨aa, 0, none⟩)), .iface (ty h) (.pointer (some ⟨ab, 0, none⟩))] 260)) (Plus S wn wc)
            (fun x hx => Nat.lt_of_lt_of_le (hSc x hx) hBa.size) (fun i c hc => by
              match i, hc with
              | 0, hc => cases hc; exact hWa.cell (j := 0) rfl
              | 1, hc => cases hc; exact hWa.cell (j := 1) rfl) (by simp) (by simp) (fun c hc => by
              simp at hc
              rcases hc with rfl | rfl
              · exact hn1.keep (fun _ h => h) fun y hy => hBa.block y (hSc y hy)
              · exact hn2.keep (fun _ h => h) fun y hy => hBa.block y (hSc y hy))
          have HNB := Lib.hid hNB
          have HBA := Lib.hid hBa
          have HF12 := Lib.hid hf12
          have HL12 := Lib.hid hl12
          clear hNB hBa hWa hn1 hn2 hf12 hl12 hSc
          go_wp2_with (go_at_call 162; refine HNB.out.mono ?_; rintro e w' ⟨np, rfl, hBn, hNn⟩)
          go_meet
          have hBc := gTrans HBA.out hBn
          simp only [List.map_cons, List.map_nil, List.flatten_cons, List.flatten_nil, List.append_nil] at hNn
          rw [HL12.out] at hNn
          have h1 := HSZN.out
          have h2 := HF.out.size
          refine ⟨frm_below HF.out hBc, gCell hBc (by have := HQR.out; rw [Bool.false_or] at this; exact this), h + 1, np, _, rfl, (hNn.keep (fun x hx => ?_) fun _ _ => rfl), ?_⟩
          · rcases hx with (hx | ⟨hx1, hx2⟩) | ⟨hx1, hx2⟩
            · exact .inl hx
            · exact .inr ⟨hx1, Nat.lt_of_lt_of_le hx2 hBc.size⟩
            · exact .inr ⟨Nat.le_trans h2 (Nat.le_trans HBA.out.size hx1), hx2⟩
          · have := HF12.out
            simp
            omega
      case rest =>
      clear HZ1 HZ2 HQR HQF h0n h1n
      obtain ⟨hFx, qrx, nh, na, nf, rfl, hnn, hnf⟩ := hcut
      have hpb : wc.heap[p]? = wn.heap[p]? := hFx.block p (Nat.lt_of_lt_of_le (hS p hSp) (by have := HBWN.out.size; omega)) (by intro e; injection e with e; omega)
      have h0x : wc.cell? ⟨p, 0, none⟩ = some (.int .i64 l.length) := cell_block hpb (gCell HBWN.out H0.out)
      have hgb : wc.heap[g]? = wn.heap[g]? := hFx.block g (by have := HSZN.out; omega) (by intro e; injection e with e; omega)
      have hWx : Whole wc g [.int .i64 l.length, .iface (ty h) (.pointer (some ⟨ra, 0, none⟩)), .iface ct cx] 262 := hgb.trans HW3.out
      have hBx : Below w.heap.size w wc := ⟨hFx.os.trans HBWN.out.os, hFx.tape.trans HBWN.out.tape, hFx.output.trans HBWN.out.output, Nat.le_trans HBWN.out.size hFx.size, fun b hb => (hFx.block b (Nat.lt_of_lt_of_le hb HBWN.out.size) (by intro e; injection e with e; omega)).trans (HBWN.out.block b hb)⟩
      have hszx : g + 1 < wc.heap.size := by have := hFx.size; have := HSZN.out; omega
      have hPx : ∀ x, Plus S wn wc x → Plus S w wc x ∧ x ≠ g := fun x hx => by
        rcases hx with hx | ⟨h1, h2⟩
        · have := hS x hx
          exact ⟨.inl hx, by omega⟩
        · have := HSZN.out
          exact ⟨.inr ⟨by omega, h2⟩, by omega⟩
      have hrg : g + 1 ≠ g := by omega
      have HNN := Lib.hid hnn
      have HNF := Lib.hid hnf
      have HBX := Lib.hid hBx
      have HPX := Lib.hid hPx
      have HSX := Lib.hid hszx
      clear hnn hnf hpb hgb hFx hBx hPx hszx HF
      have q0 := hWx.cell (j := 0) rfl
      have f0' := hWx.frozen 0
      go_upto_region 17 with (fail)
      obtain ⟨hW1, hU1⟩ := whole_set hWx (.int .i64 l.length) (i := 0) (by simp)
      have qr1 := hU1.cell (p := ⟨g + 1, 0, none⟩) hrg qrx
      clear q0 f0' qrx hWx h0x
      generalize wc.setCell ⟨g, 0, none⟩ (.int .i64 l.length) = w5 at *
      change Whole w5 g [.int .i64 l.length, .iface (ty h) (.pointer (some ⟨ra, 0, none⟩)), .iface ct cx] 262 at hW1
      have q1 := hW1.cell (j := 1) rfl
      have f1' := hW1.frozen 1
      go_upto_region 18 with (fail)
      obtain ⟨hW2, hU2⟩ := whole_set hW1 (.iface (ty nh) (.pointer (some ⟨na, 0, none⟩))) (i := 1) (by simp)
      have qr2 := hU2.cell (p := ⟨g + 1, 0, none⟩) hrg qr1
      have hU12 := hU1.trans hU2
      clear q1 f1' qr1 hW1 hU1 hU2
      generalize w5.setCell ⟨g, 1, none⟩ (.iface (ty nh) (.pointer (some ⟨na, 0, none⟩))) = w6 at *
      change Whole w6 g [.int .i64 l.length, .iface (ty nh) (.pointer (some ⟨na, 0, none⟩)), .iface ct cx] 262 at hW2
      have HU := Lib.hid hU12
      clear hU12
      have q2 := hW2.cell (j := 0) rfl
      have f2' := hW2.frozen 0
      cases hx with
      | true =>
        have HW := Lib.hid hW2
        clear hW2
        go_wp2
        go_ret
        have hU := HU.out
        have hsz := hU.size
        rw [HLI.out]
        refine ⟨g, rfl, below_upd HBX.out hU hgw, _, _, ?_, HW.out.cell (j := 1) rfl, HW.out.cell (j := 2) rfl, .inr ⟨hgw, by rw [hsz]; exact Nat.lt_of_succ_lt HSX.out⟩, hins.out, ?_, .inr ⟨HOK.out, nh, na, nf, rfl, HNN.out.keep (fun x hx => ?_) (fun x hx => hU.heap (HPX.out x hx).2), HNF.out⟩⟩
        · rw [HW.out.cell (j := 0) rfl, hLen.out]; simp
        · intro q hq
          rcases hmem.out q hq with rfl | hq
          · exact hk
          · exact HWF.out q hq
        · rcases (HPX.out x hx).1 with hx | ⟨h1, h2⟩
          · exact .inl hx
          · exact .inr ⟨h1, by rw [hsz]; exact h2⟩
      | false =>
        have hw1 : IntKind.i64.wrap ((l.length : Int) + 1) = (l.length : Int) + 1 := IntWalk.i64_in _ (by omega)
        go_upto_region 20 with (fail)
        obtain ⟨hW3', hU3'⟩ := whole_set hW2 (.int .i64 ((l.length : Int) + 1)) (i := 0) (by simp)
        have hU13 := HU.out.trans hU3'
        clear HU hU3' q2 f2' hW2
        generalize w6.setCell ⟨g, 0, none⟩ (.int .i64 ((l.length : Int) + 1)) = w7 at *
        change Whole w7 g [.int .i64 ((l.length : Int) + 1), .iface (ty nh) (.pointer (some ⟨na, 0, none⟩)), .iface ct cx] 262 at hW3'
        have HU := Lib.hid hU13
        have HW := Lib.hid hW3'
        clear hU13 hW3'
        go_wp2
        go_ret
        have hU := HU.out
        have hsz := hU.size
        rw [HLI.out]
        refine ⟨g, rfl, below_upd HBX.out hU hgw, _, _, ?_, HW.out.cell (j := 1) rfl, HW.out.cell (j := 2) rfl, .inr ⟨hgw, by rw [hsz]; exact Nat.lt_of_succ_lt HSX.out⟩, hins.out, ?_, .inr ⟨HOK.out, nh, na, nf, rfl, HNN.out.keep (fun x hx => ?_) (fun x hx => hU.heap (HPX.out x hx).2), HNF.out⟩⟩
        · rw [HW.out.cell (j := 0) rfl, hLen.out]; simp
        · intro q hq
          rcases hmem.out q hq with rfl | hq
          · exact hk
          · exact HWF.out q hq
        · rcases (HPX.out x hx).1 with hx | ⟨h1, h2⟩
          · exact .inl hx
          · exact .inr ⟨h1, by rw [hsz]; exact h2⟩
end Nis
end Go.Proofs.YtfejflhgaphilaaGreatDoor

namespace Go.Proofs.YtfejflhgaphilaaGreatDoor
open Go.RowKit Go.Sort Lst
namespace Nis

theorem mem_del {f : Int × Int → Int} {q : Int × Int} {l : List (Int × Int)} (h : q ∈ del f l) : q ∈ l := by
  unfold del at h
  split at h
  · rcases List.mem_append.1 h with h | h
    · exact List.mem_of_mem_take h
    · exact List.mem_of_mem_drop h
  · exact h

set_option maxHeartbeats 1000000 in
theorem mapSet (kk nn : Int) (k : Int) (hk : WfI k) (v : Int) (S : Nat → Prop) (w : World) (hS : ∀ x, S x → x < w.heap.size) (p N : Nat) (l : List (Int × Int)) (hM : MapAt kk nn w S p N l) (hlen : l.length < 9223372036854775807) :
    Calls Tryz.prog 115 #[.pointer (some ⟨p, 0, none⟩), Value.int IntKind.i64 k, val v] w fun e w' => ∃ p', e = .returned (.pointer (some ⟨p', 0, none⟩)) ∧ Below w.heap.size w w' ∧ MapAt kk nn w' (Plus S w w') p' (N + 1) (ins (f kk nn k) (k, v) l) := by
  have hB := gNew w (.cells #[] 157)
  have HB := Lib.hid hB
  have H := Lib.hid (mapset kk nn k hk v S (w.alloc (.cells #[] 157)) (fun x hx => Nat.lt_of_lt_of_le (hS x hx) hB.size) p N l (hM.keep (fun _ h => h) fun y hy => hB.block y (hS y hy)) hlen)
  clear hM hB
  go_enter Tryz.func115, Tryz.ntmps115
  go_wp2_with (go_at_call 114; refine H.out.mono ?_; rintro e w' ⟨p', rfl, hB, hM⟩)
  go_ret
  have h1 := HB.out.size
  exact ⟨p', rfl, gTrans HB.out hB, hM.keep (fun x hx => hx.imp id fun ⟨h2, h3⟩ => ⟨Nat.le_trans h1 h2, h3⟩) fun _ _ => rfl⟩

set_option maxHeartbeats 1000000 in
theorem mapNew (kk nn : Int) (cv : Value) (hc : Cmpr kk nn cv) (S : Nat → Prop) (w : World) :
    Calls Tryz.prog 113 #[cv] w fun e w' => ∃ p', e = .returned (.pointer (some ⟨p', 0, none⟩)) ∧ Below w.heap.size w w' ∧ MapAt kk nn w' (Plus S w w') p' 0 [] := by
  have hB := gNew w (.cells #[.int .i64 0, .nilIface, cv] 262)
  have hW := box_news w #[.int .i64 0, .nilIface, cv] 262
  have HB := Lib.hid hB
  have HW := Lib.hid hW
  have HC := Lib.hid hc
  clear hB hW
  rcases hc with ⟨h0, h⟩ | ⟨ct, cx, _, _, h, h0⟩
  all_goals
    clear h0
    subst h
    go_enter Tryz.func113, Tryz.ntmps113
    go_wp2
    go_ret
    exact ⟨_, rfl, HB.out, .nilIface, _, HW.out.cell (j := 0) rfl, HW.out.cell (j := 1) rfl, HW.out.cell (j := 2) rfl, .inr ⟨Nat.le_refl _, HW.out.lt⟩, List.Pairwise.nil, fun _ h => (by cases h), .inl ⟨rfl, rfl, HC.out⟩⟩

set_option maxHeartbeats 1000000 in
theorem mapLen (kk nn : Int) (S : Nat → Prop) (w : World) (p N : Nat) (l : List (Int × Int)) (hM : MapAt kk nn w S p N l) :
    Calls Tryz.prog 118 #[.pointer (some ⟨p, 0, none⟩)] w fun e w' => e = .returned (.int .i64 l.length) ∧ w' = w := by
  obtain ⟨root, cv, h0, h1, h2, _⟩ := hM
  go_enter Tryz.func118, Tryz.ntmps118
  go_wp2
  go_ret
  exact ⟨rfl, rfl⟩

set_option maxHeartbeats 1000000 in
theorem mapGet (kk nn : Int) (k : Int) (hk : WfI k) (S : Nat → Prop) (w : World) (hS : ∀ x, S x → x < w.heap.size) (p N : Nat) (l : List (Int × Int)) (hM : MapAt kk nn w S p N l) :
    Calls Tryz.prog 117 #[.pointer (some ⟨p, 0, none⟩), Value.int IntKind.i64 k] w fun e w' => e = .returned (.tuple #[.agg #[], .bool (has (f kk nn k) l)]) ∧ Below w.heap.size w w' := by
  obtain ⟨root, cv, h0, h1, h2, hSp, hs, hwf, hD⟩ := hM
  have hBn := gNew w (.cells #[] 157)
  have h1n := gCell hBn h1
  have h2n := gCell hBn h2
  have HBN := Lib.hid hBn
  rcases hD with ⟨rfl, rfl, _⟩ | ⟨hok, h, a, f0, rfl, hnode, _⟩
  · have hBm := gNew2 w (.cells #[] 157) (.cells #[] 157)
    have HBM := Lib.hid hBm
    clear hBn hBm hs hwf
    go_enter Tryz.func117, Tryz.ntmps117
    go_wp2
    exact bodyPost_ret (v := .tuple #[.agg #[], .bool false]) (by simp [results, Tryz.results117, go_sem]) rfl ⟨rfl, HBM.out⟩
  · obtain ⟨ct, cx, cfc, crv, rfl, hrest⟩ := id hok
    clear hrest
    have CALL : Hid (∀ W, Below w.heap.size w W → Calls Tryz.prog (fGet h) #[.pointer (some ⟨a, 0, none⟩), Value.int IntKind.i64 k, .iface ct cx] W fun e w' => e = .returned (.tuple #[.agg #[], .bool (has (f kk nn k) l)]) ∧ Below W.heap.size W w') := fun W hW =>
      node_get kk nn _ hok k hk S h a l f0 W (hnode.keep (fun _ h => h) fun y hy => hW.block y (hS y hy)) (fun x hx => Nat.lt_of_lt_of_le (hS x hx) hW.size) hs hwf
    have HCW := Lib.hid (CALL.out (w.alloc (.cells #[] 157)).drew (gTrans hBn (gDrewN (gRefl _) 1)))
    have me := meGet h a
    have en := enGet h
    have h1n' : (w.alloc (.cells #[] 157)).drew.cell? ⟨p, 1, none⟩ = some (.iface (ty h) (.pointer (some ⟨a, 0, none⟩))) := h1n
    have h2n' : (w.alloc (.cells #[] 157)).drew.cell? ⟨p, 2, none⟩ = some (.iface ct cx) := h2n
    clear CALL hs hwf hok hnode hBn
    generalize has (f kk nn k) l = hx at *
    generalize hfc : fGet h = fc at *
    clear hfc
    go_enter Tryz.func117, Tryz.ntmps117
    go_upto_region 4 with (fail)
    go_region_with (go_at_fn fc; refine HCW.out.mono ?_; rintro e w' ⟨rfl, hBx⟩)
    all_goals
      go_wp2_with fail
      exact bodyPost_ret (v := .tuple #[.agg #[], .bool hx]) (by simp [results, Tryz.results117, go_sem]) rfl ⟨rfl, gTrans (gTrans HBN.out (gDrewN (gRefl _) 1)) hBx⟩

set_option maxHeartbeats 4000000 in
theorem mapdel (kk nn : Int) (k : Int) (hk : WfI k) (S : Nat → Prop) (w : World) (hS : ∀ x, S x → x < w.heap.size) (p N : Nat) (l : List (Int × Int)) (hM : MapAt kk nn w S p N l) (hlen : l.length < 9223372036854775807) :
    Calls Tryz.prog 163 #[.pointer (some ⟨p, 0, none⟩), Value.int IntKind.i64 k, .bool false] w fun e w' => ∃ p', e = .returned (.pointer (some ⟨p', 0, none⟩)) ∧ Below w.heap.size w w' ∧ MapAt kk nn w' (Plus S w w') p' N (del (f kk nn k) l) := by
  have hM' := Lib.hid hM
  obtain ⟨root, cv, h0, h1, h2, hSp, hs, hwf, hD⟩ := hM
  have hpl := hS p hSp
  rcases hD with ⟨rfl, rfl, hcc⟩ | ⟨hok, h, a, f0, rfl, hnode, hf0⟩
  · clear hs hwf hcc
    go_enter Tryz.func163, Tryz.ntmps163
    go_wp2
    go_ret
    exact ⟨p, rfl, gRefl _, hM'.out.keep (fun _ h => .inl h) fun _ _ => rfl⟩
  · obtain ⟨ct, cx, cfc, crv, rfl, hrest⟩ := id hok
    clear hrest
    have hBn := gNew w (.cells #[.bool false] 4)
    have hrn := cell_new w (.bool false) 4
    have hfn := (box_new w (.bool false) 4).frozen 0
    have h0n := gCell hBn h0
    have h1n := gCell hBn h1
    have h2n := gCell hBn h2
    have hszn : (w.alloc (.cells #[.bool false] 4)).heap.size = w.heap.size + 1 := alloc_sz _ _
    have hSr : ¬ S w.heap.size := fun h => by have := hS _ h; omega
    have HCLONE : Hid (∀ W, Below w.heap.size w W → Calls Tryz.prog 161 #[.pointer (some ⟨p, 0, none⟩)] W fun e w' => e = .returned (.pointer (some ⟨W.heap.size, 0, none⟩)) ∧ Below W.heap.size W w' ∧ Whole w' W.heap.size [.int .i64 l.length, .iface (ty h) (.pointer (some ⟨a, 0, none⟩)), .iface ct cx] 262 ∧ w'.heap.size = W.heap.size + 1) :=
      fun W hW => mapclone p l.length _ _ W (gCell hW h0) (gCell hW h1) (gCell hW h2) rfl rfl
    have me := meDel h a
    have en := enDel h
    have hdel := Lib.hid (srt_del (f := f kk nn k) hs)
    have hLen := Lib.hid (length_del (f kk nn k) l)
    have hmem : Hid (∀ q ∈ del (f kk nn k) l, WfI q.1) := fun q hq => hwf q (mem_del hq)
    have hnone := Lib.hid (fun h => del_none (f := f kk nn k) (l := l) h)
    have hpos := Lib.hid (fun h => (has_true (f := f kk nn k) (l := l) h).1)
    have CALL : Hid (∀ W, Below (w.alloc (.cells #[.bool false] 4)).heap.size (w.alloc (.cells #[.bool false] 4)) W → Calls Tryz.prog (fDel h) #[.pointer (some ⟨a, 0, none⟩), Value.int IntKind.i64 k, .iface ct cx, .bool false, .pointer (some ⟨w.heap.size, 0, none⟩)] W fun e w' => ∃ nv, e = .returned nv ∧ KidD Iis (w.alloc (.cells #[.bool false] 4)) S w.heap.size (has (f kk nn k) l) h (.iface (ty h) (.pointer (some ⟨a, 0, none⟩))) (has (f kk nn k) l) (del (f kk nn k) l) f0 nv w') := fun W hW =>
      (node_del kk nn _ hok k hk S w.heap.size hSr h a l f0 W (hnode.keep (fun _ h => h) fun y hy => (hW.block y (Nat.lt_of_lt_of_le (hS y hy) hBn.size)).trans (hBn.block y (hS y hy))) (fun x hx => Nat.lt_of_lt_of_le (Nat.lt_of_lt_of_le (hS x hx) hBn.size) hW.size) (gCell hW hrn) (gFrozen hW (show w.heap.size < _ by rw [hszn]; exact Nat.lt_succ_self _) hfn) hs hwf).mono fun e w' => kidD_of hW
    have HCW := Lib.hid (CALL.out (w.alloc (.cells #[.bool false] 4)).drew (gDrewN (gRefl _) 1))
    have h1n' : (w.alloc (.cells #[.bool false] 4)).drew.cell? ⟨p, 1, none⟩ = some (.iface (ty h) (.pointer (some ⟨a, 0, none⟩))) := h1n
    have h2n' : (w.alloc (.cells #[.bool false] 4)).drew.cell? ⟨p, 2, none⟩ = some (.iface ct cx) := h2n
    have HOK := Lib.hid hok
    have HBN := Lib.hid hBn
    have HF0 := Lib.hid hf0
    have H0 := Lib.hid h0
    clear CALL hs hwf hok hnode hBn hrn hfn hf0 h0 h2
    generalize hli : del (f kk nn k) l = li at *
    generalize has (f kk nn k) l = hx at *
    generalize hfc : fDel h = fc at *
    have HLI := Lib.hid hli
    clear hfc hli
    go_enter Tryz.func163, Tryz.ntmps163
    go_upto_region 4 with (fail)
    go_cut [8] (fun s8 wx => KidD Iis (w.alloc (.cells #[.bool false] 4)) S w.heap.size hx h (.iface (ty h) (.pointer (some ⟨a, 0, none⟩))) hx li f0 s8 wx)
    case first =>
      go_region_with (go_at_fn fc; refine HCW.out.mono ?_; rintro e w' ⟨nv, rfl, hK⟩)
      all_goals (go_wp2_with fail; go_meet; exact hK)
    case rest =>
    obtain ⟨hF, qr, qf, hK⟩ := hcut
    clear HCW me en h0n h1n h2n h1n' h2n' h1
    have hBc : Below w.heap.size w wc := ⟨hF.os.trans HBN.out.os, hF.tape.trans HBN.out.tape, hF.output.trans HBN.out.output, Nat.le_trans HBN.out.size hF.size, fun b hb => (hF.block b (Nat.lt_of_lt_of_le hb HBN.out.size) (by intro e; injection e with e; omega)).trans (HBN.out.block b hb)⟩
    have hPx : ∀ x, Plus S (w.alloc (.cells #[.bool false] 4)) wc x → Plus S w wc x ∧ x < wc.heap.size := fun x hx => by
      rcases hx with hx | ⟨h1, h2⟩
      · exact ⟨.inl hx, Nat.lt_of_lt_of_le (hS x hx) hBc.size⟩
      · exact ⟨.inr ⟨by rw [hszn] at h1; omega, h2⟩, h2⟩
    have HBC := Lib.hid hBc
    have HPX := Lib.hid hPx
    have HK := Lib.hid hK
    have hlw : ((l.length : Int) - 1) ≤ 9223372036854775807 := by omega
    have hsz : w.heap.size < wc.heap.size := World.block_lt_of_cell? wc _ qr
    have HSZ := Lib.hid hsz
    clear hF hBc hPx hK hsz hszn qf
    cases hx with
    | false =>
      go_wp2
      go_ret
      rw [hnone.out (by simp)]
      exact ⟨p, rfl, HBC.out, hM'.out.keep (fun _ h => .inl h) fun y hy => HBC.out.block y (hS y hy)⟩
    | true =>
      have hpl1 := hpos.out rfl
      have h0c := gCell HBC.out H0.out
      have HCL := Lib.hid (HCLONE.out wc HBC.out)
      clear HCLONE
      generalize hg : wc.heap.size = g at *
      go_upto_region 10 with (go_at_call 161; refine HCL.out.mono ?_; rintro e w2 ⟨rfl, hB2, hW2, hs2⟩)
      have HG := Lib.hid hg
      have hgw : w.heap.size ≤ g := by rw [← hg]; exact HBC.out.size
      have hB2' := gTrans HBC.out (by rw [hg]; exact hB2)
      have h02 := gCell (by rw [hg]; exact hB2) h0c
      have HB2 : Hid (Below wc.heap.size wc w2) := by show Below _ _ _; rw [hg]; exact hB2
      have hwr : IntKind.i64.wrap ((l.length : Int) - 1) = (li.length : Int) := by
        rw [hLen.out, IntWalk.i64_in _ (by omega)]; simp; omega
      have q0 := hW2.cell (j := 0) rfl
      have f0' := hW2.frozen 0
      clear hg h0c hB2
      go_upto_region 11 with (fail)
      obtain ⟨hW3, hU3⟩ := whole_set hW2 (.int .i64 (li.length : Int)) (i := 0) (by simp)
      clear q0 f0' hW2 h02 hwr
      have hs3 := hU3.size.trans hs2
      generalize w2.setCell ⟨g, 0, none⟩ (.int .i64 (li.length : Int)) = w3 at *
      change Whole w3 g [.int .i64 (li.length : Int), .iface (ty h) (.pointer (some ⟨a, 0, none⟩)), .iface ct cx] 262 at hW3
      have q1 := hW3.cell (j := 1) rfl
      have f1' := hW3.frozen 1
      have HU3 := Lib.hid hU3
      clear hU3
      rcases HK.out with ⟨h, _⟩ | ⟨_, hl', rfl⟩ | ⟨_, f1, hn1, hf1⟩
      · cases h
      · have HL' := Lib.hid hl'
        clear hl'
        go_upto_region 12 with (fail)
        obtain ⟨hW4, hU4⟩ := whole_set hW3 .nilIface (i := 1) (by simp)
        have hB4 := below_upd hB2' (HU3.out.trans hU4) hgw
        have hs4 := hU4.size.trans hs3
        clear q1 f1' hW3 hU4
        generalize w3.setCell ⟨g, 1, none⟩ .nilIface = w5 at *
        have HW := Lib.hid hW4
        have HB := Lib.hid hB4
        clear hW4 hB4
        go_wp2
        go_ret
        exact ⟨g, rfl, HB.out, _, _, HW.out.cell (j := 0) rfl, HW.out.cell (j := 1) rfl, HW.out.cell (j := 2) rfl, .inr ⟨hgw, by rw [hs4]; omega⟩, hdel.out, hmem.out, .inl ⟨rfl, HL'.out, .inr HOK.out⟩⟩
      · obtain ⟨na, rfl⟩ := node_ptr hn1
        have HN1 := Lib.hid hn1
        have HF1 := Lib.hid hf1
        clear hn1 hf1
        go_upto_region 12 with (fail)
        obtain ⟨hW4, hU4⟩ := whole_set hW3 (.iface (ty h) (.pointer (some ⟨na, 0, none⟩))) (i := 1) (by simp)
        have hU := HU3.out.trans hU4
        have hB4 := below_upd hB2' hU hgw
        have hs4 := hU4.size.trans hs3
        clear q1 f1' hW3 hU4
        generalize w3.setCell ⟨g, 1, none⟩ (.iface (ty h) (.pointer (some ⟨na, 0, none⟩))) = w5 at *
        have HW := Lib.hid hW4
        have HB := Lib.hid hB4
        have HU := Lib.hid hU
        clear hW4 hB4 hU
        go_wp2
        go_ret
        have hgc : ∀ x, x < g → w5.heap[x]? = wc.heap[x]? := fun x hx => (HU.out.heap (by omega)).trans (HB2.out.block x (by rw [HG.out]; exact hx))
        have h16 : f1 + 16 ^ h ≤ N := by have := HF0.out; have := HF1.out; omega
        exact ⟨g, rfl, HB.out, _, _, HW.out.cell (j := 0) rfl, HW.out.cell (j := 1) rfl, HW.out.cell (j := 2) rfl, .inr ⟨hgw, by rw [hs4]; omega⟩, hdel.out, hmem.out, .inr ⟨HOK.out, h, na, f1, rfl, HN1.out.keep (fun x hx => (HPX.out x hx).1.imp id fun ⟨h1, h2⟩ => ⟨h1, by have := HG.out; rw [hs4]; omega⟩) (fun x hx => hgc x (HPX.out x hx).2), h16⟩⟩

theorem mapDel (kk nn : Int) (k : Int) (hk : WfI k) (S : Nat → Prop) (w : World) (hS : ∀ x, S x → x < w.heap.size) (p N : Nat) (l : List (Int × Int)) (hM : MapAt kk nn w S p N l) (hlen : l.length < 9223372036854775807) :
    Calls Tryz.prog 116 #[.pointer (some ⟨p, 0, none⟩), Value.int IntKind.i64 k] w fun e w' => ∃ p', e = .returned (.pointer (some ⟨p', 0, none⟩)) ∧ Below w.heap.size w w' ∧ MapAt kk nn w' (Plus S w w') p' N (del (f kk nn k) l) := by
  have H := Lib.hid (mapdel kk nn k hk S w hS p N l hM hlen)
  clear hM
  go_enter Tryz.func116, Tryz.ntmps116
  go_wp2_with (go_at_call 163; refine H.out.mono ?_; rintro e w' ⟨p', rfl, hB, hM⟩)
  go_ret
  exact ⟨p', rfl, hB, hM⟩
end Nis
end Go.Proofs.YtfejflhgaphilaaGreatDoor

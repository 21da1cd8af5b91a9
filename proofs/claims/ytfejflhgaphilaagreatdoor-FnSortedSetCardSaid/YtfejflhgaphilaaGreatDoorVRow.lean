/-
  ARGUMENTS: a slice of structs of three fields, opened to its cells; what a call leaves that lays blocks alone.
  ARGUMENTS: a slice of structs of seven fields, opened to its cells.
  THE ROW AND THE CARD of FnSortedSet: whatever the input, the law returns true.
-/
import Derived.Test.YtfejflhgaphilaaGreatDoorVC
import Derived.Test.YtfejflhgaphilaaGreatDoorVN
import Derived.Deep.Slices
import Derived.Deep.Fields
import Derived.ChangeSame
import Derived.Carry
import Derived.Lib.SmallJoins
import Derived.OpenShut
import Derived.Test.YtfejflhgaphilaaGreatDoorCards
import Derived.Test.YtfejflhgaphilaaGreatDoorTie
import Derived.Test.YtfejflhgaphilaaGreatDoorVT
import Derived.Stop.LaidErr
import Derived.ProofKit
import Derived.Deep.DeepHandedRow
import Derived.Lib.LaidTab
set_option linter.all false
set_option linter.unusedVariables false
set_option linter.unusedSimpArgs false
set_option linter.unusedSectionVars false
namespace Go.Proofs.YtfejflhgaphilaaGreatDoor
open Go.ChangeShapes Go.WideShapes Go.Deep Go.RowKit Lst

theorem list_of {α : Type} (P : Nat → α → Prop) : ∀ n : Nat, (∀ i, i < n → ∃ x, P i x) → ∃ l : List α, l.length = n ∧ ∀ i x, l[i]? = some x → P i x
  | 0, _ => ⟨[], rfl, fun i x h => by simp at h⟩
  | n + 1, h => by
    obtain ⟨l, hl, hp⟩ := list_of P n (fun i hi => h i (Nat.lt_succ_of_lt hi))
    obtain ⟨x, hx⟩ := h n (Nat.lt_succ_self n)
    refine ⟨l ++ [x], by simp [hl], fun i y hy => ?_⟩
    by_cases hi : i < n
    · rw [List.getElem?_append_left (by omega)] at hy
      exact hp i y hy
    · have hlt := (List.getElem?_eq_some_iff.1 hy).1
      rw [List.length_append] at hlt
      simp only [List.length_cons, List.length_nil] at hlt
      have : i = n := by omega
      subst this
      rw [List.getElem?_append_right (by omega), hl, Nat.sub_self] at hy
      simp only [List.getElem?_cons_zero, Option.some.injEq] at hy
      subst hy
      exact hx

section
variable {H : Type} {enc : TypeId × Value → H} {P : Program} {w : World} {base : Nat} {spare : Nat → Bool} {held : Bool}

end
end Go.Proofs.YtfejflhgaphilaaGreatDoor

namespace Go.Proofs.YtfejflhgaphilaaGreatDoor
open Go.ChangeShapes Go.WideShapes Go.Deep Go.RowKit Lst

theorem rowV_of7 {α : Type} {w : World} {g : α → List Value} (hg : ∀ x, (g x).length = 7) {a : Addr} {len cap : Nat} {l : List α} (hl : l.length = len) (hc : len ≤ cap)
    (h : ∀ i x, l[i]? = some x → ∀ r, r < 7 → w.cell? (a.add (i * 7 + r)) = (g x)[r]?) : RowV w (.slice (some a) len cap) len (l.flatMap g) := by
  refine ⟨some a, cap, rfl, hc, fun hn => ⟨a.block, a.off, ?_, fun j v hj => ?_⟩⟩
  · obtain ⟨x, hx⟩ : ∃ x, l[0]? = some x := ⟨_, List.getElem?_eq_getElem (by omega)⟩
    have h0 := h 0 x hx 0 (by decide)
    have hv : (g x)[0]? = some ((g x)[0]'(by rw [hg]; decide)) := List.getElem?_eq_getElem _
    rw [hv] at h0
    obtain ⟨b, o, s⟩ := a
    cases s with
    | none => rfl
    | some s =>
      exfalso
      unfold World.cell? at h0
      simp only [Addr.add] at h0
      split at h0
      · simp at h0
      · cases h0
  · have hj3 : j < l.length * 7 := by
      have := (List.getElem?_eq_some_iff.1 hj).1
      rwa [flat_len hg] at this
    obtain ⟨x, hx⟩ : ∃ x, l[j / 7]? = some x := ⟨_, List.getElem?_eq_getElem (by omega)⟩
    have e := flat_get hg hx (show j % 7 < 7 by omega)
    rw [show j / 7 * 7 + j % 7 = j by omega] at e
    have hc := h (j / 7) x hx (j % 7) (by omega)
    rw [show j / 7 * 7 + j % 7 = j by omega, ← e, hj] at hc
    obtain ⟨b, o, s⟩ := a
    by_cases h0 : j = 0
    · subst h0
      cases s with
      | none => simpa [Addr.add] using hc
      | some s =>
        exfalso
        unfold World.cell? at hc
        simp only [Addr.add] at hc
        split at hc
        · simp at hc
        · cases hc
    · simpa [Addr.add, h0] using hc

section
variable {H : Type} {enc : TypeId × Value → H} {P : Program} {w : World} {base : Nat} {spare : Nat → Bool} {held : Bool}

/-- A slice of structs of seven fields, each of one cell. -/
theorem rows7 {t e : TypeId} {f0 f1 f2 f3 f4 f5 f6 : Field} {fuel : Nat} {cs : List Value} {x : DataW H × List MemPlace} (ht : P.underlying t = some (.slice e)) (he : P.underlying e = some (.struct #[f0, f1, f2, f3, f4, f5, f6])) (hone : oneCellFields P #[f0, f1, f2, f3, f4, f5, f6] = true) (hC : P.cellsOf e = 7)
    (h : DataW.trod enc P w base spare held fuel t cs = some x) :
    cs = [.slice none 0 0] ∨ ∃ (a : Addr) (len cap : Nat), cs = [.slice (some a) len cap] ∧ len ≤ cap ∧ ∀ i, i < len → ∃ (v0 v1 v2 v3 v4 v5 v6 : Value) (n : Nat) (y0 y1 y2 y3 y4 y5 y6 : DataW H × List MemPlace),
      w.cell? (a.add (i * 7 + 0)) = some v0 ∧ w.cell? (a.add (i * 7 + 1)) = some v1 ∧ w.cell? (a.add (i * 7 + 2)) = some v2 ∧ w.cell? (a.add (i * 7 + 3)) = some v3 ∧ w.cell? (a.add (i * 7 + 4)) = some v4 ∧ w.cell? (a.add (i * 7 + 5)) = some v5 ∧ w.cell? (a.add (i * 7 + 6)) = some v6 ∧
      DataW.trod enc P w base spare held n f0.type [v0] = some y0 ∧ DataW.trod enc P w base spare held n f1.type [v1] = some y1 ∧ DataW.trod enc P w base spare held n f2.type [v2] = some y2 ∧ DataW.trod enc P w base spare held n f3.type [v3] = some y3 ∧ DataW.trod enc P w base spare held n f4.type [v4] = some y4 ∧ DataW.trod enc P w base spare held n f5.type [v5] = some y5 ∧ DataW.trod enc P w base spare held n f6.type [v6] = some y6 := by
  rcases open_slice ht h with h0 | ⟨a, len, cap, m, n, D, Pl, hcs, _, hl, _, hmm, _, hi⟩
  · exact .inl h0.1
  · refine .inr ⟨a, len, cap, hcs, hl, fun i him => ?_⟩
    obtain ⟨cs', hc, ht'⟩ := hi i (by rw [hmm]; split <;> omega)
    rw [hC] at hc
    obtain ⟨ys, n', _, _, hlen, hyl, hf⟩ := DataW.trod_struct he ht'
    obtain ⟨_, hcl, hat⟩ := World.cells?_some hc
    match cs', hcl with
    | [u0, u1, u2, u3, u4, u5, u6], _ =>
      obtain ⟨o0, k0⟩ := hone_of hone 0 f0 rfl
      obtain ⟨o1, k1⟩ := hone_of hone 1 f1 rfl
      obtain ⟨o2, k2⟩ := hone_of hone 2 f2 rfl
      obtain ⟨o3, k3⟩ := hone_of hone 3 f3 rfl
      obtain ⟨o4, k4⟩ := hone_of hone 4 f4 rfl
      obtain ⟨o5, k5⟩ := hone_of hone 5 f5 rfl
      obtain ⟨o6, k6⟩ := hone_of hone 6 f6 rfl
      match ys, hyl with
      | [y0, y1, y2, y3, y4, y5, y6], _ =>
        have a0 := hat 0 (by decide)
        have a1 := hat 1 (by decide)
        have a2 := hat 2 (by decide)
        have a3 := hat 3 (by decide)
        have a4 := hat 4 (by decide)
        have a5 := hat 5 (by decide)
        have a6 := hat 6 (by decide)
        rw [add_add] at a0 a1 a2 a3 a4 a5 a6
        exact ⟨u0, u1, u2, u3, u4, u5, u6, n', y0, y1, y2, y3, y4, y5, y6, a0, a1, a2, a3, a4, a5, a6, by simpa [o0, k0] using hf 0 f0 rfl, by simpa [o1, k1] using hf 1 f1 rfl, by simpa [o2, k2] using hf 2 f2 rfl, by simpa [o3, k3] using hf 3 f3 rfl, by simpa [o4, k4] using hf 4 f4 rfl, by simpa [o5, k5] using hf 5 f5 rfl, by simpa [o6, k6] using hf 6 f6 rfl⟩
end
end Go.Proofs.YtfejflhgaphilaaGreatDoor

namespace Go.Proofs.YtfejflhgaphilaaGreatDoor.fnSortedSet
open Go.ChangeShapes Go.WideShapes Go.ChangeAt Go.RowKit Go.Joins Go.Deep

theorem own : ownKnob Tryz.prog.godebug = none := by kernel_rfl
theorem laidOut : laidOutB Tryz.prog = true := by kernel_rfl

section
variable {H : Type} {enc : TypeId × Value → H} {P : Program}
/-- The row's last step, where of what was there nothing has turned. -/
theorem post_grown {f : Func} {s : ChangeSpec} {W W' : World} {args : Array Value} {v : Value} {ds gs : List (DataW H)} {before : List MemPlace}
    (hW : DataW.Whole enc P f.params.toList s.vars false W args.toList ds gs before)
    (hres : ∀ (b : Nat) (sp : Nat → Bool) (hd : Bool), DataW.TrodAll enc P W' b sp hd f.resultTypes.toList (v.resultList f.resultTypes.size) (s.fn H (ds ++ gs)).results [])
    (hargs : ∀ sp : Nat → Bool, (∀ p ∈ before, sp p.block = true) → DataW.TrodAll enc P W' 0 sp true f.params.toList args.toList (s.fn H (ds ++ gs)).args before)
    (hvars : ∀ sp : Nat → Bool, DataW.TrodVars enc P W' sp s.vars (s.fn H (ds ++ gs)).vars []) (hb : Below W.heap.size W W')
    (hok : ∀ (j : Nat) (t : TypeId) (r : Value), f.resultTypes[j]? = some t → (v.resultList f.resultTypes.size)[j]? = some r → Value.okWide P W' .any 0 t r) :
    s.post enc P f false true false false W args v W' := by
  have hlt : ∀ p ∈ before, p.block < W.heap.size := fun p hp => hW.lt p hp
  have hold : ∀ p ∈ before, (fun b => decide (b < W.heap.size)) p.block = true := fun p hp => by simpa using hlt p hp
  refine ⟨ds, gs, before, [], before, [], hW, hres _ _ _, hargs _ hold, hvars _, World.keptBut_mono (fun p hp => ⟨hp, .inr (.inl hp)⟩) (hb.frame (· ∈ before)), fun _ => ?_⟩
  obtain ⟨_, _, _, _, _, hz, hn⟩ := hW
  refine ⟨hok, _, _, ([] ++ before) ++ [], ⟨[] ++ before, [], trodAll_append (hargs _ (fun _ _ => rfl)) (hres _ _ _), hvars _, rfl, ?_, ?_⟩, ?_⟩
  · intro b off hp
    have hin : MemPlace.cell b off ∈ before := by simpa using hp
    rw [hb.frozen (hlt _ hin)]
    exact hz b off hin
  · intro ha
    simpa using hn ha
  · intro p hp _
    simpa using hp
end

set_option maxRecDepth 100000 in
set_option maxHeartbeats 2000000 in
/-- WHAT THE WALK GIVES, FOR EVERY ARGUMENT. -/
theorem contract (H : Type) (enc : TypeId × Value → H) (W : World) (base : Nat) (args : Array Value) (ds gs : List (DataW H)) (before : List MemPlace) (hTab : Tab W)
    (hval : ∀ (j : Nat) t v, Tryz.f3.params[j]? = some t → args[j]? = some v → Value.okWide Tryz.prog W .any base t v)
    (hW : DataW.Whole enc Tryz.prog Tryz.f3.params.toList Rows.fnSortedSetSpec.vars false W args.toList ds gs before) :
    Calls Tryz.prog 3 args W fun e W' => ∃ v, e = .returned v ∧ Rows.fnSortedSetSpec.post enc Tryz.prog Tryz.f3 false true false false W args v W' := by
  have hW' := hW
  obtain ⟨p, q, hA0, hV, rfl, hfz, hnd⟩ := hW
  have hA : DataW.TrodAll enc Tryz.prog W 0 (fun _ => true) true Tryz.f3.params.toList args.toList ds p := hA0
  rw [Tryz.params3] at hA hval
  obtain ⟨v0, vs0, d0, ds0, p0, q0, hargs, rfl, rfl, h0, r0⟩ := trodAll_cons hA
  obtain ⟨v1, vs1, d1, ds1, p1, q1, rfl, rfl, rfl, h1, r1⟩ := trodAll_cons r0
  obtain ⟨v2, vs2, d2, ds2, p2, q2, rfl, rfl, rfl, h2, r2⟩ := trodAll_cons r1
  obtain ⟨rfl, rfl, rfl⟩ := trodAll_nil r2
  obtain rfl : args = #[v0, v1, v2] := by cases args; simp_all
  obtain ⟨rfl, rfl⟩ := trodVars_none hV
  have k0 := h0
  have k1 := h1
  have k2 := h2
  obtain ⟨txt, rfl, rfl, rfl⟩ := open_bool Tryz.underlying4 (hval 0 4 v0 rfl rfl) h0
  obtain ⟨u0, u1, y0, y1, n, rfl, rfl, rfl, t0, t1⟩ := open_agg2 Tryz.underlying23 (by kernel_rfl) (by kernel_rfl) (hval 1 23 v1 rfl rfl) h1
  obtain ⟨kk, hkk, hy0, wk⟩ := DataW.trod_int Tryz.underlying5 t0
  obtain ⟨nn, hnn, hy1, wn⟩ := DataW.trod_int Tryz.underlying2 t1
  simp only [List.cons.injEq, and_true] at hkk hnn
  subst hkk
  subst hnn
  obtain ⟨pa, pl, pc, rfl⟩ := okWide_slice Tryz.underlying24 (hval 2 24 v2 rfl rfl)
  have hP : ∃ ss : List St, (∀ s ∈ ss, 0 ≤ s.op ∧ I64 s.at_ ∧ I64 s.key ∧ I64 s.val ∧ I64 s.by_) ∧ RowV W (.slice pa pl pc) ss.length (sts ss) := by
    obtain ⟨fuel, hf⟩ := h2
    rcases rows7 Tryz.underlying24 Tryz.underlying64 (by kernel_rfl) (by kernel_rfl) hf with hc | ⟨a, len, cap, hc, hl, hi⟩
    · simp only [Value.cells, List.cons.injEq, and_true, Value.slice.injEq] at hc
      obtain ⟨rfl, rfl, rfl⟩ := hc
      exact ⟨[], fun _ h => (by cases h), none, 0, rfl, Nat.le_refl _, fun h => absurd h (Nat.lt_irrefl _)⟩
    · simp only [Value.cells, List.cons.injEq, and_true, Value.slice.injEq] at hc
      obtain ⟨rfl, rfl, rfl⟩ := hc
      obtain ⟨ss, hpl, hp⟩ := list_of (fun i (s : St) => (0 ≤ s.op ∧ I64 s.at_ ∧ I64 s.key ∧ I64 s.val ∧ I64 s.by_) ∧ ∀ r, r < 7 → W.cell? (a.add (i * 7 + r)) = (St.cells s)[r]?) pl (fun i hlt => by
        obtain ⟨x0, x1, x2, x3, x4, x5, x6, n, z0, z1, z2, z3, z4, z5, z6, c0, c1, c2, c3, c4, c5, c6, e0, e1, e2, e3, e4, e5, e6⟩ := hi i hlt
        obtain ⟨k0v, hx0, _, w0⟩ := DataW.trod_int Tryz.underlying5 e0
        obtain ⟨k1v, hx1, _, w1⟩ := DataW.trod_int Tryz.underlying3 e1
        obtain ⟨k2v, hx2, _, w2⟩ := DataW.trod_int Tryz.underlying2 e2
        obtain ⟨k3v, hx3, _, _⟩ := DataW.trod_string Tryz.underlying9 e3
        obtain ⟨k4v, hx4, _, w4⟩ := DataW.trod_int Tryz.underlying2 e4
        obtain ⟨k5v, hx5, _, w5⟩ := DataW.trod_int Tryz.underlying3 e5
        obtain ⟨k6v, hx6, _, w6⟩ := DataW.trod_int Tryz.underlying2 e6
        simp only [List.cons.injEq, and_true] at hx0 hx1 hx2 hx3 hx4 hx5 hx6
        subst hx0 hx1 hx2 hx3 hx4 hx5 hx6
        refine ⟨⟨k0v, k1v, k2v, k3v, k4v, k5v, k6v⟩, ⟨(bounds_u8 w0).1, bounds_i64 w1, bounds_i64 w2, bounds_i64 w4, bounds_i64 w6⟩, fun r hr => ?_⟩
        rcases (show r = 0 ∨ r = 1 ∨ r = 2 ∨ r = 3 ∨ r = 4 ∨ r = 5 ∨ r = 6 by omega) with rfl | rfl | rfl | rfl | rfl | rfl | rfl
        · exact c0
        · exact c1
        · exact c2
        · exact c3
        · exact c4
        · exact c5
        · exact c6)
      refine ⟨ss, fun s hm => ?_, ?_⟩
      · obtain ⟨i, hi⟩ := List.mem_iff_getElem?.1 hm
        exact (hp i s hi).1
      · rw [hpl]
        exact rowV_of7 len_stc hpl hl (fun i x hx => (hp i x hx).2)
  obtain ⟨ss, hss, hRs⟩ := hP
  refine (fnSet txt kk nn (bounds_u8 wk).1 ss _ W hss hTab hRs).mono fun e W' ⟨he, hb⟩ => ?_
  subst he
  simp only [List.append_nil] at hW'
  have hlt := fun x hx => hW'.lt x hx
  have S := fun (sp : Nat → Bool) {t : TypeId} {v : Value} {d : DataW H} {ps : List MemPlace} (hr : Tryz.prog.readableRec t = true) (hrow : t < Tryz.prog.types.size) (h : DataW.Trod enc Tryz.prog W 0 (fun _ => true) true t v d ps) (h1 : ∀ x ∈ ps, x.block < W.heap.size) (h2 : ∀ x ∈ ps, sp x.block = true) =>
    WideElems.Trod_stays (W' := W') (sp' := sp) laidOut hr hrow h (fun x hx => hb.same (h1 x hx)) h2
  exact ⟨_, rfl, post_grown hW' (fun _ _ _ => trodAll_cons_mk (shut_bool Tryz.underlying4 _) trodAll_mk0)
    (fun sp hsp => by
      have h := trodAll_cons_mk (S sp (by kernel_rfl) (of_decide_eq_true (by kernel_rfl)) k0 (fun x hx => hlt x (by cases hx)) (fun x hx => hsp x (by cases hx))) (trodAll_cons_mk (S sp (by kernel_rfl) (of_decide_eq_true (by kernel_rfl)) k1 (fun x hx => hlt x (by simp only [List.nil_append]; exact List.mem_append_left _ hx)) (fun x hx => hsp x (by simp only [List.nil_append]; exact List.mem_append_left _ hx))) (trodAll_cons_mk (S sp (by kernel_rfl) (of_decide_eq_true (by kernel_rfl)) k2 (fun x hx => hlt x (by simp only [List.nil_append]; exact List.mem_append_right _ hx)) (fun x hx => hsp x (by simp only [List.nil_append]; exact List.mem_append_right _ hx))) trodAll_mk0))
      rw [List.append_nil] at h
      exact h)
    (fun _ => rfl) hb (ok_one (by kernel_rfl) rfl (okWide_bool_mk Tryz.underlying4 _))⟩

/-- A block's cells are laid anew. -/
def layCells (cs : Array Value) : Obj → Obj
  | .cells _ t frozen => .cells cs t frozen
  | o => o
/-- A WORLD FOR THE WITNESS: the settled one, the three tables holding what their initialisers lay. -/
noncomputable def laidWorld (os : Os) : World :=
  { World.holding Tryz.prog os ⟨#[], #[], []⟩ with heap := (((World.holding Tryz.prog os ⟨#[], #[], []⟩).heap.modify 0 (layCells #[.int .u64 1, .int .u64 10, .int .u64 100, .int .u64 1000, .int .u64 10000, .int .u64 100000, .int .u64 1000000, .int .u64 10000000, .int .u64 100000000, .int .u64 1000000000, .int .u64 10000000000, .int .u64 100000000000, .int .u64 1000000000000, .int .u64 10000000000000, .int .u64 100000000000000, .int .u64 1000000000000000, .int .u64 10000000000000000, .int .u64 100000000000000000, .int .u64 1000000000000000000, .int .u64 10000000000000000000])).modify 1 (layCells #[.int .u8 0, .int .u8 1, .int .u8 28, .int .u8 2, .int .u8 29, .int .u8 14, .int .u8 24, .int .u8 3, .int .u8 30, .int .u8 22, .int .u8 20, .int .u8 15, .int .u8 25, .int .u8 17, .int .u8 4, .int .u8 8, .int .u8 31, .int .u8 27, .int .u8 13, .int .u8 23, .int .u8 21, .int .u8 19, .int .u8 16, .int .u8 7, .int .u8 26, .int .u8 12, .int .u8 18, .int .u8 6, .int .u8 11, .int .u8 5, .int .u8 10, .int .u8 9])).modify 2 (layCells #[.int .u8 0, .int .u8 1, .int .u8 56, .int .u8 2, .int .u8 57, .int .u8 49, .int .u8 28, .int .u8 3, .int .u8 61, .int .u8 58, .int .u8 42, .int .u8 50, .int .u8 38, .int .u8 29, .int .u8 17, .int .u8 4, .int .u8 62, .int .u8 47, .int .u8 59, .int .u8 36, .int .u8 45, .int .u8 43, .int .u8 51, .int .u8 22, .int .u8 53, .int .u8 39, .int .u8 33, .int .u8 30, .int .u8 24, .int .u8 18, .int .u8 12, .int .u8 5, .int .u8 63, .int .u8 55, .int .u8 48, .int .u8 27, .int .u8 60, .int .u8 41, .int .u8 37, .int .u8 16, .int .u8 46, .int .u8 35, .int .u8 44, .int .u8 21, .int .u8 52, .int .u8 32, .int .u8 23, .int .u8 11, .int .u8 54, .int .u8 26, .int .u8 40, .int .u8 15, .int .u8 34, .int .u8 20, .int .u8 31, .int .u8 10, .int .u8 25, .int .u8 14, .int .u8 19, .int .u8 9, .int .u8 13, .int .u8 8, .int .u8 7, .int .u8 6]) }
abbrev wArgs : Array Value := #[.bool false, .agg #[.int .u8 0, .int .i64 0], .slice none 0 0]
set_option maxRecDepth 100000 in
theorem laid_met (os : Os) : laidMet Tryz.prog Rows.fnSortedSetRow.laid ((laidWorld os).forCall (fun _ _ => 0) ⟨#[], wArgs, []⟩).memory :=
  laidMet_of_run' 8 (by kernel_rfl) (by kernel_rfl)
set_option maxRecDepth 100000 in
theorem reads (os : Os) {H : Type} (enc : TypeId × Value → H) : ∃ places, DataW.whole enc Tryz.prog ((laidWorld os).forCall (fun _ _ => 0) ⟨#[], wArgs, []⟩).memory Tryz.f3.params.toList Rows.fnSortedSetSpec.vars false wArgs.toList 8 = some ([.lit (.bool false), .agg [.lit (.int .u8 0), .lit (.int .i64 0)], .nil], [], places) :=
  ⟨[], by kernel_rfl⟩

set_option maxRecDepth 100000 in
theorem lifted (os : Os) (started : os.Started) (H : Type) (enc : TypeId × Value → H) (F : Stop.Interp) :
    ReturnsInHanded {} Tryz.checked os 3 .any ((OpenSpec.ofChange Rows.fnSortedSetSpec).preRow enc Tryz.prog Tryz.f3 Rows.fnSortedSetRow.domain false Rows.fnSortedSetRow.laid) (((OpenSpec.ofChange Rows.fnSortedSetSpec).at F).post enc Tryz.prog Tryz.f3 false true false false) := by
  obtain ⟨places, hx⟩ := reads os enc
  refine returnsInHanded_of_row (C := Tryz.checked) (s := OpenSpec.ofChange Rows.fnSortedSetSpec) own started (by kernel_rfl) Tryz.func3
    (witness_row_at (enc := enc) (C := Tryz.checked) false (laidWorld os) wArgs rfl (by kernel_rfl) (by kernel_rfl) (by kernel_rfl)
      (OpenSpec.preRow_of_cond 8 hx (by kernel_rfl) (fun k hk => by cases hk) (by kernel_rfl) (laid_met os))) ?_
  intro W base args ds gs before hval hW _ _ _ hL _ _
  have hTab : Tab W := Lib.tabIs_of_head (k := .u64) (zs := Lib.pow10Tab) (show Tryz.prog.globalNamed "internal/strconv.uint64pow10" = some 0 by kernel_rfl) (by kernel_rfl) Tryz.underlying327 Tryz.underlying180 (by kernel_rfl) (by kernel_rfl) (laidMet.tail (laidMet.tail hL))
  exact contract H enc W base args ds gs before hTab hval hW

theorem said : Rows.FnSortedSetSaid :=
  OpenClaim.holds_of_cond 3 Tryz.f3 rfl rfl rfl rfl rfl rfl rfl ⟨rfl, rfl, rfl, rfl, rfl⟩ rfl rfl rfl rfl rfl (by kernel_rfl) Tryz.func3 (by kernel_rfl)
    (of_decide_eq_true (by kernel_rfl)) (by unfold Func.isWrapper; first | (rw [if_pos (by decide +kernel)]; kernel_rfl) | (rw [if_neg (by decide +kernel)]; exact ⟨rfl, rfl⟩))
    (fun os started H enc _ F => by rw [OpenClaim.pre_eq_preRow]; exact lifted os started H enc F)

/-- No parameter wants a stand-in; the program's own looks are off. -/
theorem plain (f : FuncId) (fn : Func) (hf : Tryz.pinned.checked.prog.funcNamed "pub-bracken/laws.FnSortedSet" = some f) (hfn : Tryz.pinned.checked.prog.funcs[f]? = some fn) :
    true = Tryz.pinned.checked.prog.looks [] ∧ ∀ (j : Nat) t, fn.params[j]? = some t → Tryz.pinned.checked.prog.wantsStandIn t = false := by
  obtain rfl : f = 3 := Option.some.inj ((show Tryz.prog.funcNamed "pub-bracken/laws.FnSortedSet" = some 3 by kernel_rfl).symm.trans hf) |>.symm
  obtain rfl : fn = Tryz.f3 := (Option.some.inj (Tryz.func3.symm.trans hfn)).symm
  refine ⟨by kernel_rfl, fun j t ht => ?_⟩
  rw [Tryz.params3] at ht
  have hm : t ∈ #[4, 23, 24] := Array.mem_of_getElem? ht
  simp only [List.mem_toArray, List.mem_cons, List.not_mem_nil, or_false] at hm
  rcases hm with rfl | rfl | rfl
  · exact (show Tryz.prog.wantsStandIn 4 = false by kernel_rfl)
  · exact (show Tryz.prog.wantsStandIn 23 = false by kernel_rfl)
  · exact (show Tryz.prog.wantsStandIn 24 = false by kernel_rfl)

/-- THE CARD: the law FnSortedSet returns true, whatever the input. -/
theorem card : Rows.FnSortedSetCardSaid :=
  Claim7.holds_tied_plain_at .later [] _ _ _ _ said (fun _ h => by cases h) (by kernel_rfl) (fun _ h => by cases h) fnSortedSet_row_tie rfl ⟨rfl, rfl⟩ (by kernel_rfl) rfl plain (by kernel_rfl)
end Go.Proofs.YtfejflhgaphilaaGreatDoor.fnSortedSet

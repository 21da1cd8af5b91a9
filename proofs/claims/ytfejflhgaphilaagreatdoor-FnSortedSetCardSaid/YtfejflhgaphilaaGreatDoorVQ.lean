/-
  THE WALKS of what the laws lay ahead of the calls: what is too great, whether pairs are right, pairs converted.
  THE WALK of the thin package's pairsOf, keys of numbers.
-/
import Derived.Test.YtfejflhgaphilaaGreatDoorVN
import Derived.Test.YtfejflhgaphilaaGreatDoorVIII
set_option linter.all false
set_option linter.unusedVariables false
set_option linter.unusedSimpArgs false
set_option linter.unusedSectionVars false
namespace Go.Proofs.YtfejflhgaphilaaGreatDoor
open Go.RowKit Go.Sort Lst

theorem infoP' : (Tryz.prog.info? 59).map (fun i => (i.zero, i.size, i.bytes)) = some (some (.agg #[.int .i64 0, .string ⟨#[]⟩, .int .i64 0]), 3, 32) := by kernel_rfl

end Go.Proofs.YtfejflhgaphilaaGreatDoor

namespace Go.Proofs.YtfejflhgaphilaaGreatDoor
open Go.RowKit Go.Sort Lst

theorem keep_own {w w' : World} {it base : Nat} {e : TypeId} {size : Nat} {v : Value} {n : Nat} {xs : List Value} (h : w.ownsRow base e size v n xs) (k : w.grownBy w' (some it)) (hb : it < base) : w'.ownsRow base e size v n xs :=
  h.kept k (by
    have hl := h.lt
    cases hv : v.ownBlock with
    | none => exact .inl rfl
    | some j => exact .inr (by intro e; injection e with e; have := (hl j hv).1; omega))

set_option maxHeartbeats 4000000 in
set_option maxRecDepth 100000 in
theorem pairsOf_any (kk nn : Int) (S : Nat → Prop) (w : World) (hS : ∀ x, S x → x < w.heap.size) (it p N : Nat) (l : List (Int × Int)) (hlen : l.length ≤ 800000) (hi : Nii.ItAt kk nn w S it p N l (landP 0 l.length)) :
    Calls Tryz.prog 147 #[keysI, .pointer (some ⟨it, 0, none⟩)] w fun e w' => ∃ v', e = .returned v' ∧ w'.ownsRow (w.heap.size + 1) 59 3 v' l.length (prs (l.map embI)) ∧ w.grownBy w' (some it) := by
  have hb := gNew w (.cells #[.func (.func 69) #[] #[], .func (.func 70) #[] #[], .func (.func 71) #[] #[]] 85)
  have q2 : (w.alloc (.cells #[.func (.func 69) #[] #[], .func (.func 70) #[] #[], .func (.func 71) #[] #[]] 85)).cell? ⟨w.heap.size, 2, none⟩ = some (.func (.func 71) #[] #[]) := by go_simp
  have hitl := hi.lt
  have hsz : (w.alloc (.cells #[.func (.func 69) #[] #[], .func (.func 70) #[] #[], .func (.func 71) #[] #[]] 85)).heap.size = w.heap.size + 1 := alloc_sz _ _
  have HI := Lib.hid (hi.grow hS hb)
  have HB := Lib.hid hb
  have HS := Lib.hid hS
  have HSZ := Lib.hid hsz
  have Q2 := Lib.hid q2
  clear hi hb hS hsz q2
  obtain ⟨i0, hi0, hz0, hz1, hz2⟩ := info_parts infoP'
  go_enter Tryz.func147, Tryz.ntmps147
  go_upto_region 2 with (fail)
  generalize w.alloc (.cells #[.func (.func 69) #[] #[], .func (.func 70) #[] #[], .func (.func 71) #[] #[]] 85) = wa at *
  go_loopg [5] l.length (fun g s5 wr => ∃ (n : Nat), n + g = l.length ∧ Nii.ItAt kk nn wr S it p N l (landP n l.length) ∧ wr.ownsRow (w.heap.size + 1) 59 3 s5 n (prs ((l.take n).map embI)) ∧ wa.grownBy wr (some it) ∧ wr.cell? ⟨w.heap.size, 2, none⟩ = some (.func (.func 71) #[] #[]))
  case atStart => exact ⟨0, by omega, HI.out, World.ownsRow_nil _ _ _ _, World.grownBy.refl _ _, Q2.out⟩
  case round =>
    obtain ⟨n, hig, hit, hown, hby, r2⟩ := hrel
    have HD := Lib.hid (Nii.itDone kk nn S wr it p N l _ hit)
    have HBY := Lib.hid hby
    have hwr : w.heap.size + 1 ≤ wr.heap.size := by have := hby.size; have := HSZ.out; omega
    have HWR := Lib.hid hwr
    have hSr : ∀ x, S x → x < wr.heap.size := fun x hx => by have := HS.out x hx; omega
    have hlt' : n < l.length ∨ n = l.length := by omega
    rcases hlt' with hlt | rfl
    · obtain ⟨x, hx⟩ : ∃ x, l[n]? = some x := ⟨_, List.getElem?_eq_getElem hlt⟩
      have hl : landP n l.length = (n : Int) := by unfold landP; rw [if_neg (by omega)]
      rw [hl] at hit HD
      have hd : decide ((n : Int) < 0) = false := by simp
      rw [hd] at HD
      have HN := Lib.hid (Nii.itNext_at kk nn S wr hSr it p N l n x hx hit)
      have HX := Lib.hid hx
      have HOWN := Lib.hid hown
      have HIG := Lib.hid hig
      have HSR := Lib.hid hSr
      have HMX : Hid (n + 1 ≤ maxLen) := by show _ ≤ _; simp only [maxLen]; omega
      have HBYT : Hid ((n + 1) * 32 ≤ 140737488355328) := by show _ ≤ _; omega
      clear hit hown hig hby hwr hx hl hd hSr
      go_upto_region 4 with (first | (go_at_call 97; refine HD.out.mono ?_; rintro e w4 ⟨rfl, h4⟩; subst h4) | (go_at_call 93; refine HN.out.mono ?_; rintro e w5 ⟨rfl, hg5, hi5⟩))
      have r5 := hg5.cell r2 (by intro e; injection e with e; have e' : w.heap.size = it := e; omega)
      have HG5 := Lib.hid hg5
      have HI5 := Lib.hid hi5
      have HO5 := Lib.hid (keep_own HOWN.out hg5 (by omega))
      have HW5 : Hid (w.heap.size + 1 ≤ w5.heap.size) := Nat.le_trans HWR.out hg5.size
      have HR5 := Lib.hid r5
      clear hg5 hi5 r2
      go_wp2_with (first | (go_at_call 71; refine (pairI x.1 x.2 _).mono ?_; rintro e w6 ⟨rfl, hB6⟩; have HB6 := Lib.hid hB6; have hgn := gNew w6 (.cells (embI x).cells.toArray 59); have HO6 := Lib.hid (HO5.out.kept (below_by (g := none) (gTrans hB6 hgn)) (by cases Value.ownBlock _ <;> simp)); have HN6 := Lib.hid (news_of (box_news w6 (embI x).cells.toArray 59)); have HBASE : Hid (w.heap.size + 1 ≤ (w6.alloc (.cells (embI x).cells.toArray 59)).heap.size) := Nat.le_trans HW5.out (Nat.le_trans hB6.size hgn.size); clear hB6 hgn) | ((with_reducible refine at_slot 25 ?_); refine wpList_append_moved _ rfl _ _ 55 rfl (w.heap.size + 1) 59 i0 _ 3 32 Tryz.underlying55 hi0 hz0 hz1 hz2 rfl (by omega) _ n (prs ((l.take n).map embI)) (by rfl) HO6.out ⟨w6.heap.size, 0, none⟩ 1 1 (embI x).cells (by rfl) rfl HN6.out (oneC _) HMX.out HBYT.out HBASE.out ?_; intro v3 w7 hown3 hg3 hm3))
      have hB67 := gNew w6 (.cells (embI x).cells.toArray 59)
      have HLT := Lib.hid HO6.out.lt
      go_roundg (gk - 1)
      case measure => have := HIG.out; omega
      case rel =>
        have hB57 : Below (w.heap.size + 1) w5 w7 := ((HB6.out.trans (hB67.mono HB6.out.size)).mono HW5.out).grown hg3 HBASE.out (fun k hk => (HLT.out k hk).1)
        refine ⟨n + 1, by have := HIG.out; omega, HI5.out.keep (fun b hb => hB57.block b (by have := HS.out b hb; omega)) (hB57.block it (by omega)), ?_, ?_, cell_block (hB57.block w.heap.size (Nat.lt_succ_self _)) HR5.out⟩
        · obtain ⟨hl, he⟩ := List.getElem?_eq_some_iff.1 HX.out
          rw [List.take_succ_eq_append_getElem hl, he, List.map_append]
          simp only [prs, List.flatMap_append, List.map_cons, List.map_nil, List.flatMap_cons, List.flatMap_nil, List.append_nil]
          exact hown3
        · have h1 := HBY.out
          have h2 := HG5.out
          exact ⟨hB57.os.trans (h2.os.trans h1.os), hB57.tape.trans (h2.tape.trans h1.tape), hB57.output.trans (h2.output.trans h1.output), Nat.le_trans h1.size (Nat.le_trans h2.size hB57.size), fun k hk hne => (hB57.block k (by have := HSZ.out; omega)).trans ((h2.block k (Nat.lt_of_lt_of_le hk h1.size) hne).trans (h1.block k hk hne))⟩
    · have hl : landP l.length l.length = -1 := by unfold landP; rw [if_pos rfl]
      rw [hl] at HD
      have HO : Hid (wr.ownsRow (w.heap.size + 1) 59 3 u5 l.length (prs (l.map embI))) := by
        show wr.ownsRow (w.heap.size + 1) 59 3 u5 l.length (prs (l.map embI))
        simpa using hown
      clear hit hown hby hwr hSr hl
      go_wp2_with (go_at_call 97; refine HD.out.mono ?_; rintro e w4 ⟨rfl, h4⟩; subst h4)
      go_ret
      exact ⟨_, rfl, HO.out, grown_trans (below_by HB.out) HBY.out⟩
end Go.Proofs.YtfejflhgaphilaaGreatDoor

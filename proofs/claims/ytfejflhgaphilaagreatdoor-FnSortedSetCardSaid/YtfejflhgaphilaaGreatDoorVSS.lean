/-
  THE WALK of a sorted set's Items, instance ss.
-/
import Derived.Test.YtfejflhgaphilaaGreatDoorVJSS
import Derived.Test.YtfejflhgaphilaaGreatDoorVISS
import Derived.Test.YtfejflhgaphilaaGreatDoorVN
set_option linter.all false
set_option linter.unusedVariables false
set_option linter.unusedSimpArgs false
set_option linter.unusedSectionVars false
namespace Go.Proofs.YtfejflhgaphilaaGreatDoor
open Go.RowKit Go.Sort Lst
namespace Nss

theorem infoK : (Tryz.prog.info? 9).map (fun i => (i.zero, i.size, i.bytes)) = some (some (Value.string ⟨#[]⟩), 1, 16) := by kernel_rfl

set_option maxHeartbeats 4000000 in
theorem setItems (kk nn : Int) (S : Nat → Prop) (w : World) (hS : ∀ x, S x → x < w.heap.size) (p N : Nat) (hN : N < 16 ^ 20) (L : List (ByteArray × Int)) (hL : L.length ≤ 1000000) (hM : MapAt kk nn w S p N L) :
    Calls Tryz.prog 50 #[.agg #[.pointer (some ⟨p, 0, none⟩)]] w fun e w' => ∃ v, e = .returned v ∧ Below w.heap.size w w' ∧ w'.ownsRow w.heap.size 9 1 v L.length (L.map fun q => Value.string q.1) := by
  obtain ⟨i0, hi, hz0, hz1, hz2⟩ := info_parts infoK
  have hB := gNew w (.cells #[.pointer (some ⟨p, 0, none⟩)] 108)
  have hS1 : ∀ x, S x → x < (w.alloc (.cells #[.pointer (some ⟨p, 0, none⟩)] 108)).heap.size := fun x hx => Nat.lt_of_lt_of_le (hS x hx) hB.size
  have hM1 := hM.grow hS hB
  have HLEN := Lib.hid (setLen kk nn S _ hS1 p N L hM1)
  have q := cell_new w (.pointer (some ⟨p, 0, none⟩)) 108
  have HB := Lib.hid hB
  have HM1 := Lib.hid hM1
  clear hM hB hM1
  go_enter Tryz.func50, Tryz.ntmps50
  go_upto_region 1 with (fail)
  generalize w.alloc (.cells #[.pointer (some ⟨p, 0, none⟩)] 108) = wa at *
  go_upto_region 2 with (first | (go_at_call 49; refine HLEN.out.mono ?_; rintro e w1 ⟨rfl, hB1⟩) | (at_make; refine wpList_makeOwn w1 rfl _ _ 115 rfl 9 i0 _ 1 16 Tryz.underlying115 hi hz0 hz1 hz2 _ _ L.length rfl rfl (by omega) (by simp only [maxLen]; omega) ?_; intro w2 hown hB2))
  have hS2 : ∀ x, S x → x < w2.heap.size := fun x hx => Nat.lt_of_lt_of_le (Nat.lt_of_lt_of_le (hS1 x hx) hB1.size) hB2.size
  have hB12 := gTrans hB1 hB2
  have q2 := gCell hB12 q
  have HIT := Lib.hid (setIter kk nn S w2 hS2 p N hN L (HM1.out.grow hS1 hB12))
  have hw1w : w.heap.size ≤ w1.heap.size := Nat.le_trans HB.out.size hB1.size
  have hown' : w2.ownsRow w.heap.size 9 1 (.slice (some ⟨w1.heap.size, 0, none⟩) 0 L.length) 0 [] := by
    refine ⟨hown.1, hown.2.imp id ?_⟩
    rintro ⟨g, cap, cur, h1, h2, h3⟩
    exact ⟨g, cap, cur, h1, Nat.le_trans hw1w h2, h3⟩
  have hlt2 : w1.heap.size < w2.heap.size := (hown.lt _ rfl).2
  have HOWN := Lib.hid hown'
  have HB2 := Lib.hid (gTrans HB.out hB12)
  clear hown hown' hB12 hB1 hB2 HLEN q
  generalize hg : w1.heap.size = g1 at *
  clear hg
  go_upto_region 3 with (go_at_call 51; refine HIT.out.mono ?_; rintro e w3 ⟨si, it, rfl, hB3, hsi, hit, hne, hsl, qsi, hIt⟩)
  have hw2 := HB2.out.size
  have hsil : si < w3.heap.size := hsl
  have hitl : it < w3.heap.size := hIt.lt
  have hkeep : w3.ownsRow w.heap.size 9 1 (.slice (some ⟨g1, 0, none⟩) 0 L.length) 0 [] := HOWN.out.kept (below_by (g := none) hB3) (by simp [Value.ownBlock])
  have HOWN3 := Lib.hid hkeep
  have HB3 := Lib.hid (HB2.out.trans (hB3.mono hw2))
  have HNE : Hid (∀ k, (Value.slice (some ⟨g1, 0, none⟩) 0 L.length).ownBlock = some k → k ≠ it ∧ k ≠ si) := by
    intro k hk
    have e : k = g1 := by simpa [Value.ownBlock] using hk.symm
    subst e
    exact ⟨by omega, by omega⟩
  have HIT3 := Lib.hid hIt
  have HSI : Hid (si ≠ it) := hne
  have HIDX : Hid (w.heap.size ≤ it) := Nat.le_trans hw2 hit
  clear hkeep hB3 hIt hsi hit hsl hne hlt2 hw2
  go_loopg [3] L.length (fun g s3 wr => ∃ n : Nat, n + g = L.length ∧ ItAt kk nn wr S it p N L (landed n L.length) ∧ wr.ownsRow w.heap.size 9 1 s3 n ((L.take n).map fun q => Value.string q.1) ∧ Below w.heap.size w wr ∧ wr.cell? ⟨si, 0, none⟩ = some (.pointer (some ⟨it, 0, none⟩)) ∧ it < wr.heap.size ∧ si < wr.heap.size ∧ ∀ k, s3.ownBlock = some k → k ≠ it ∧ k ≠ si)
  case atStart => exact ⟨0, by omega, HIT3.out, HOWN3.out, HB3.out, qsi, hitl, hsil, HNE.out⟩
  case round =>
    obtain ⟨n, hig, hit, hown, hB, qs, hitl, hsil, hn⟩ := hrel
    have hSr : ∀ x, S x → x < wr.heap.size := fun x hx => Nat.lt_of_lt_of_le (hS x hx) hB.size
    have HD := Lib.hid (siDone kk nn S wr si it p N L _ qs hit)
    have hlt' : n < L.length ∨ n = L.length := by omega
    rcases hlt' with hlt | rfl
    · obtain ⟨x, hx⟩ : ∃ x, L[n]? = some x := ⟨_, List.getElem?_eq_getElem hlt⟩
      have hl : landed n L.length = (n : Int) := by unfold landed; rw [if_neg (by omega)]
      rw [hl] at hit HD
      have hd : decide ((n : Int) < 0) = false := by simp
      rw [hd] at HD
      have HN := Lib.hid (siNext_at kk nn S wr hSr si it p N L n x hx qs hit)
      have HX := Lib.hid hx
      have HOWN := Lib.hid hown
      have HIG := Lib.hid hig
      have HBR := Lib.hid hB
      have HNR := Lib.hid hn
      have HQS := Lib.hid qs
      have HMX : Hid (n + 1 ≤ maxLen) := by show _ ≤ _; simp only [maxLen]; omega
      have HBYT : Hid ((n + 1) * 16 ≤ 140737488355328) := by show _ ≤ _; omega
      clear hit hown hig hB hx hl hd hSr hn qs
      go_upto_region 5 with (first | (go_at_call 53; refine HD.out.mono ?_; rintro e w4 ⟨rfl, h4⟩; subst h4) | (go_at_call 80; refine HN.out.mono ?_; rintro e w5 ⟨rfl, hg5, hi5⟩))
      have ho5 := HOWN.out.kept hg5 (by
        cases hv : Value.ownBlock _ with
        | none => exact .inl rfl
        | some k => exact .inr (fun e => (HNR.out k hv).1 (by injection e)))
      have hgn := gNew w5 (.cells #[Value.string x.1] 9)
      have HO6 := Lib.hid (ho5.kept (below_by (g := none) hgn) (by cases Value.ownBlock _ <;> simp))
      have HN6 := Lib.hid (news_of (box_news w5 #[Value.string x.1] 9))
      have hB5 : Below w.heap.size w w5 := HBR.out.grown hg5 HBR.out.size (fun k hk => by injection hk with hk; rw [← hk]; exact HIDX.out)
      have HB6 := Lib.hid (hB5.trans (hgn.mono hB5.size))
      have HBASE := Lib.hid (Nat.le_trans hB5.size hgn.size)
      have HQ6 := Lib.hid (gCell hgn (hg5.cell HQS.out (fun e => HSI.out (by injection e))))
      have HI6 := Lib.hid (hi5.keep (fun b hb => hgn.block b (Nat.lt_of_lt_of_le (hS b hb) hB5.size)) (hgn.block it hi5.lt))
      have HONE : Hid (∀ u ∈ [Value.string x.1], u.oneCell' = true) := by intro u hu; simp only [List.mem_cons, List.not_mem_nil, or_false] at hu; subst hu; rfl
      have HSZ := Lib.hid (Nat.le_trans hg5.size hgn.size)
      have hi5l := hi5.lt
      have HLTI : Hid (it < (w5.alloc (.cells #[Value.string x.1] 9)).heap.size ∧ si < (w5.alloc (.cells #[Value.string x.1] 9)).heap.size) := ⟨Nat.lt_of_lt_of_le hitl HSZ.out, Nat.lt_of_lt_of_le hsil HSZ.out⟩
      clear ho5 hgn hB5 hg5 hi5 hi5l
      go_wp2_with ((with_reducible refine at_slot 23 ?_); refine wpList_append_moved _ rfl _ _ 115 rfl w.heap.size 9 i0 _ 1 16 Tryz.underlying115 hi hz0 hz1 hz2 rfl (by omega) _ n ((L.take n).map fun q => Value.string q.1) (by rfl) HO6.out ⟨w5.heap.size, 0, none⟩ 1 1 [Value.string x.1] (by rfl) rfl HN6.out HONE.out HMX.out HBYT.out HBASE.out ?_; intro v3 w7 hown3 hg3 hm3)
      have HLT := Lib.hid HO6.out.lt
      have HNR6 := Lib.hid HNR.out
      go_roundg (gk - 1)
      case measure => have := HIG.out; omega
      case rel =>
        have hne3 : ∀ k, Value.ownBlock u3 = some k → k ≠ it ∧ k ≠ si := HNR6.out
        refine ⟨n + 1, by have := HIG.out; omega, ?_, ?_, HB6.out.grown hg3 HBASE.out (fun k hk => (HLT.out k hk).1), ?_, Nat.lt_of_lt_of_le HLTI.out.1 hg3.size, Nat.lt_of_lt_of_le HLTI.out.2 hg3.size, ?_⟩
        · exact HI6.out.keep (fun b hb => hg3.block b (Nat.lt_of_lt_of_le (hS b hb) HBASE.out) (fun e => by have h1 := (HLT.out b e.symm).1; have h2 := hS b hb; omega)) (hg3.block it HLTI.out.1 (fun e => (hne3 it e.symm).1 rfl))
        · obtain ⟨hl, he⟩ := List.getElem?_eq_some_iff.1 HX.out
          rw [List.take_succ_eq_append_getElem hl, he, List.map_append]
          exact hown3
        · exact hg3.cell HQ6.out (fun e => (hne3 si e.symm).2 rfl)
        · intro k hk
          rcases hm3 k hk with h | h
          · exact hne3 k h
          · have h1 := HLTI.out; exact ⟨by omega, by omega⟩
    · have hl : landed L.length L.length = -1 := by unfold landed; rw [if_pos rfl]
      rw [hl] at HD
      have HO : Hid (wr.ownsRow w.heap.size 9 1 u3 L.length (L.map fun q => Value.string q.1)) := by
        show wr.ownsRow w.heap.size 9 1 u3 L.length (L.map fun q => Value.string q.1)
        simpa using hown
      have HBR := Lib.hid hB
      clear hit hown hB hSr hl hn
      go_wp2_with (go_at_call 53; refine HD.out.mono ?_; rintro e w4 ⟨rfl, h4⟩; subst h4)
      go_ret
      exact ⟨_, rfl, HBR.out, HO.out⟩
end Nss
end Go.Proofs.YtfejflhgaphilaaGreatDoor

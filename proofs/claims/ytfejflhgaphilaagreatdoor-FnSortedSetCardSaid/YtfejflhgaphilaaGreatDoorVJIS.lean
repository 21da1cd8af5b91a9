/-
  THE WALKS of a sorted set's Add, Delete, Has and Len, instance is.
  THE WALKS of NewSortedSet, and of a sorted set's iterator, instance is.
  THE WALKS of a sorted set's iterator, instance is.
  THE WALK of a sorted set's Iterator, instance is.
-/
import Derived.Test.YtfejflhgaphilaaGreatDoorVIIS
set_option linter.all false
set_option linter.unusedVariables false
set_option linter.unusedSimpArgs false
set_option linter.unusedSectionVars false
namespace Go.Proofs.YtfejflhgaphilaaGreatDoor
open Go.RowKit Go.Sort Lst
namespace Nis

theorem MapAt.grow {kk nn : Int} {w w' : World} {S : Nat → Prop} {p N : Nat} {l : List (Int × Int)} (h : MapAt kk nn w S p N l) (hS : ∀ x, S x → x < w.heap.size) (hB : Below w.heap.size w w') : MapAt kk nn w' S p N l :=
  h.keep (fun _ h => h) fun b hb => hB.block b (hS b hb)

set_option maxHeartbeats 2000000 in
theorem setLen (kk nn : Int) (S : Nat → Prop) (w : World) (hS : ∀ x, S x → x < w.heap.size) (p N : Nat) (l : List (Int × Int)) (hM : MapAt kk nn w S p N l) :
    Calls Tryz.prog 63 #[.agg #[.pointer (some ⟨p, 0, none⟩)]] w fun e w' => e = .returned (.int .i64 l.length) ∧ Below w.heap.size w w' := by
  have hB := gNew w (.cells #[.pointer (some ⟨p, 0, none⟩)] 126)
  have HL := Lib.hid (mapLen kk nn S _ p N l (hM.grow hS hB))
  have q := cell_new w (.pointer (some ⟨p, 0, none⟩)) 126
  have HB := Lib.hid hB
  clear hM hB
  go_enter Tryz.func63, Tryz.ntmps63
  go_wp2_with (go_at_call 118; refine HL.out.mono ?_; rintro e w' ⟨rfl, rfl⟩)
  go_ret
  exact ⟨rfl, HB.out⟩

set_option maxHeartbeats 2000000 in
theorem setHas (kk nn : Int) (k : Int) (hk : WfI k) (S : Nat → Prop) (w : World) (hS : ∀ x, S x → x < w.heap.size) (p N : Nat) (l : List (Int × Int)) (hM : MapAt kk nn w S p N l) :
    Calls Tryz.prog 62 #[.agg #[.pointer (some ⟨p, 0, none⟩)], Value.int IntKind.i64 k] w fun e w' => e = .returned (.bool (has (f kk nn k) l)) ∧ Below w.heap.size w w' := by
  have hB := gNew w (.cells #[.pointer (some ⟨p, 0, none⟩)] 126)
  have HG := Lib.hid (mapGet kk nn k hk S _ (fun x hx => Nat.lt_of_lt_of_le (hS x hx) hB.size) p N l (hM.grow hS hB))
  have q := cell_new w (.pointer (some ⟨p, 0, none⟩)) 126
  have HB := Lib.hid hB
  clear hM hB
  generalize has (f kk nn k) l = hx at *
  go_enter Tryz.func62, Tryz.ntmps62
  go_wp2_with (go_at_call 117; refine HG.out.mono ?_; rintro e w' ⟨rfl, hB2⟩)
  go_ret
  exact ⟨rfl, gTrans (gTrans HB.out hB2) (gNew _ _)⟩

set_option maxHeartbeats 2000000 in
theorem setAdd (kk nn : Int) (k : Int) (hk : WfI k) (S : Nat → Prop) (w : World) (hS : ∀ x, S x → x < w.heap.size) (p N : Nat) (l : List (Int × Int)) (hM : MapAt kk nn w S p N l) (hlen : l.length < 9223372036854775807) :
    Calls Tryz.prog 60 #[.agg #[.pointer (some ⟨p, 0, none⟩)], Value.int IntKind.i64 k] w fun e w' => ∃ p', e = .returned (.agg #[.pointer (some ⟨p', 0, none⟩)]) ∧ Below w.heap.size w w' ∧ MapAt kk nn w' (Plus S w w') p' (N + 1) (ins (f kk nn k) (k, 0) l) := by
  have hB := gNew2 w (.cells #[.pointer (some ⟨p, 0, none⟩)] 126) (.cells #[.pointer none] 126)
  have HG := Lib.hid (mapSet kk nn k hk 0 S _ (fun x hx => Nat.lt_of_lt_of_le (hS x hx) hB.size) p N l (hM.grow hS hB) hlen)
  have q := alloc_cell (.cells #[.pointer none] 126) (cell_new w (.pointer (some ⟨p, 0, none⟩)) 126)
  have hW := box_new (w.alloc (.cells #[.pointer (some ⟨p, 0, none⟩)] 126)) (.pointer none) 126
  rw [alloc_sz] at hW
  have HB := Lib.hid hB
  clear hM hB
  go_enter Tryz.func60, Tryz.ntmps60
  go_wp2_with (go_at_call 115; refine HG.out.mono ?_; rintro e w' ⟨p', rfl, hB2, hM2⟩; have hW2 := hW.grow hB2; have q4 := hW2.cell (j := 0) rfl; have f4 := hW2.frozen 0)
  obtain ⟨hW3, hU3⟩ := whole_set hW2 (.pointer (some ⟨p', 0, none⟩)) (i := 0) (by simp)
  have q5 := hW3.cell (j := 0) rfl
  have hB4 := below_upd (gTrans HB.out hB2) hU3 (by omega)
  have hsz := hU3.size
  refine bodyPost_ret (v := .agg #[.pointer (some ⟨p', 0, none⟩)]) (by simp [results, Tryz.results60, go_sem, q5]) rfl ⟨p', rfl, hB4, hM2.keep (fun x hx => ?_) (fun x hx => hU3.heap ?_)⟩
  · rcases hx with hx | ⟨h1, h2⟩
    · exact .inl hx
    · rw [alloc_sz, alloc_sz] at h1
      exact .inr ⟨by omega, by rw [hsz]; exact h2⟩
  · rcases hx with hx | ⟨h1, h2⟩
    · have := hS x hx; omega
    · rw [alloc_sz, alloc_sz] at h1; omega

set_option maxHeartbeats 2000000 in
theorem setDel (kk nn : Int) (k : Int) (hk : WfI k) (S : Nat → Prop) (w : World) (hS : ∀ x, S x → x < w.heap.size) (p N : Nat) (l : List (Int × Int)) (hM : MapAt kk nn w S p N l) (hlen : l.length < 9223372036854775807) :
    Calls Tryz.prog 61 #[.agg #[.pointer (some ⟨p, 0, none⟩)], Value.int IntKind.i64 k] w fun e w' => ∃ p', e = .returned (.agg #[.pointer (some ⟨p', 0, none⟩)]) ∧ Below w.heap.size w w' ∧ MapAt kk nn w' (Plus S w w') p' N (del (f kk nn k) l) := by
  have hB := gNew2 w (.cells #[.pointer (some ⟨p, 0, none⟩)] 126) (.cells #[.pointer none] 126)
  have HG := Lib.hid (mapDel kk nn k hk S _ (fun x hx => Nat.lt_of_lt_of_le (hS x hx) hB.size) p N l (hM.grow hS hB) hlen)
  have q := alloc_cell (.cells #[.pointer none] 126) (cell_new w (.pointer (some ⟨p, 0, none⟩)) 126)
  have hW := box_new (w.alloc (.cells #[.pointer (some ⟨p, 0, none⟩)] 126)) (.pointer none) 126
  rw [alloc_sz] at hW
  have HB := Lib.hid hB
  clear hM hB
  go_enter Tryz.func61, Tryz.ntmps61
  go_wp2_with (go_at_call 116; refine HG.out.mono ?_; rintro e w' ⟨p', rfl, hB2, hM2⟩; have hW2 := hW.grow hB2; have q4 := hW2.cell (j := 0) rfl; have f4 := hW2.frozen 0)
  obtain ⟨hW3, hU3⟩ := whole_set hW2 (.pointer (some ⟨p', 0, none⟩)) (i := 0) (by simp)
  have q5 := hW3.cell (j := 0) rfl
  have hB4 := below_upd (gTrans HB.out hB2) hU3 (by omega)
  have hsz := hU3.size
  refine bodyPost_ret (v := .agg #[.pointer (some ⟨p', 0, none⟩)]) (by simp [results, Tryz.results61, go_sem, q5]) rfl ⟨p', rfl, hB4, hM2.keep (fun x hx => ?_) (fun x hx => hU3.heap ?_)⟩
  · rcases hx with hx | ⟨h1, h2⟩
    · exact .inl hx
    · rw [alloc_sz, alloc_sz] at h1
      exact .inr ⟨by omega, by rw [hsz]; exact h2⟩
  · rcases hx with hx | ⟨h1, h2⟩
    · have := hS x hx; omega
    · rw [alloc_sz, alloc_sz] at h1; omega
end Nis
end Go.Proofs.YtfejflhgaphilaaGreatDoor

namespace Go.Proofs.YtfejflhgaphilaaGreatDoor
open Go.RowKit Go.Sort Lst
namespace Nis

set_option maxHeartbeats 2000000 in
theorem setNew (kk nn : Int) (cv : Value) (hc : Cmpr kk nn cv) (S : Nat → Prop) (w : World) (hS : ∀ x, S x → x < w.heap.size) :
    Calls Tryz.prog 59 #[cv, .slice none 0 0] w fun e w' => ∃ p', e = .returned (.agg #[.pointer (some ⟨p', 0, none⟩)]) ∧ Below w.heap.size w w' ∧ MapAt kk nn w' (Plus S w w') p' 0 [] := by
  have hB := gNew w (.cells #[.pointer none] 126)
  have hW := box_new w (.pointer none) 126
  have HN := Lib.hid (mapNew kk nn cv hc S (w.alloc (.cells #[.pointer none] 126)))
  have HB := Lib.hid hB
  have HW := Lib.hid hW
  clear hB hc hW
  go_enter Tryz.func59, Tryz.ntmps59
  go_wp2_with (go_at_call 113; refine HN.out.mono ?_; rintro e w1 ⟨p', rfl, hB1, hM1⟩)
  go_loopg [5, 12] 0 (fun g s5 s12 wr => s5 = .pointer (some ⟨p', 0, none⟩) ∧ s12 = .int .i64 0 ∧ wr = w1)
  case atStart => exact ⟨rfl, rfl, rfl⟩
  case round =>
    obtain ⟨rfl, rfl, hw⟩ := hrel
    subst hw
    have hW2 := HW.out.grow hB1
    have q4 := hW2.cell (j := 0) rfl
    have f4 := hW2.frozen 0
    have HB1 := Lib.hid hB1
    have HM1 := Lib.hid hM1
    have HW2 := Lib.hid hW2
    clear hB1 hM1 hW2
    go_wp2
    obtain ⟨hW3, hU3⟩ := whole_set HW2.out (.pointer (some ⟨p', 0, none⟩)) (i := 0) (by simp)
    have q5 := hW3.cell (j := 0) rfl
    have hB4 := below_upd (gTrans HB.out HB1.out) hU3 (Nat.le_refl _)
    have hsz := hU3.size
    refine bodyPost_ret (v := .agg #[.pointer (some ⟨p', 0, none⟩)]) (by simp [results, Tryz.results59, go_sem, q5]) rfl ⟨p', rfl, hB4, HM1.out.keep (fun x hx => ?_) (fun x hx => hU3.heap ?_)⟩
    · rcases hx with hx | ⟨h1, h2⟩
      · exact .inl hx
      · rw [alloc_sz] at h1
        exact .inr ⟨by omega, by rw [hsz]; exact h2⟩
    · rcases hx with hx | ⟨h1, h2⟩
      · have := hS x hx; omega
      · rw [alloc_sz] at h1; omega

set_option maxHeartbeats 2000000 in
theorem siDone (kk nn : Int) (S : Nat → Prop) (w : World) (si it p N : Nat) (L : List (Int × Int)) (t : Int) (hsi : w.cell? ⟨si, 0, none⟩ = some (.pointer (some ⟨it, 0, none⟩))) (h : ItAt kk nn w S it p N L t) :
    Calls Tryz.prog 67 #[.pointer (some ⟨si, 0, none⟩)] w fun e w' => e = .returned (.bool (decide (t < 0))) ∧ w' = w := by
  have H := Lib.hid (itDone kk nn S w it p N L t h)
  clear h
  go_enter Tryz.func67, Tryz.ntmps67
  go_wp2_with (go_at_call 122; refine H.out.mono ?_; rintro e w1 ⟨rfl, hw1⟩; subst hw1)
  go_ret
  exact ⟨rfl, rfl⟩

set_option maxHeartbeats 2000000 in
theorem siLast (kk nn : Int) (S : Nat → Prop) (w : World) (hS : ∀ x, S x → x < w.heap.size) (si it p N : Nat) (hN : N < 16 ^ 20) (L : List (Int × Int)) (t : Int) (hsi : w.cell? ⟨si, 0, none⟩ = some (.pointer (some ⟨it, 0, none⟩))) (h : ItAt kk nn w S it p N L t) :
    Calls Tryz.prog 66 #[.pointer (some ⟨si, 0, none⟩)] w fun e w' => e = .returned (.tuple #[]) ∧ w.grownBy w' (some it) ∧ ItAt kk nn w' S it p N L ((L.length : Int) - 1) := by
  obtain ⟨cells, z, hb, _⟩ := h.depth
  have H := Lib.hid (itLast kk nn S w hS it p N hN L h.1 h.2.1 cells hb)
  clear h hb
  go_enter Tryz.func66, Tryz.ntmps66
  go_wp2_with (go_at_call 121; refine H.out.mono ?_; rintro e w1 ⟨rfl, hg, hi⟩)
  exact bodyPost_end (v := .tuple #[]) (by simp [results, Tryz.results66, go_sem]) rfl ⟨rfl, hg, hi⟩
end Nis
end Go.Proofs.YtfejflhgaphilaaGreatDoor

namespace Go.Proofs.YtfejflhgaphilaaGreatDoor
open Go.RowKit Go.Sort Lst
namespace Nis

set_option maxHeartbeats 2000000 in
theorem siNext_at (kk nn : Int) (S : Nat → Prop) (w : World) (hS : ∀ x, S x → x < w.heap.size) (si it p N : Nat) (L : List (Int × Int)) (n : Nat) (x : Int × Int) (hx : L[n]? = some x) (hsi : w.cell? ⟨si, 0, none⟩ = some (.pointer (some ⟨it, 0, none⟩))) (h : ItAt kk nn w S it p N L n) :
    Calls Tryz.prog 92 #[.pointer (some ⟨si, 0, none⟩)] w fun e w' => e = .returned (.tuple #[Value.int IntKind.i64 x.1, .bool true]) ∧ w.grownBy w' (some it) ∧ ItAt kk nn w' S it p N L (landed (n + 1) L.length) := by
  have H := Lib.hid (itNext_at kk nn S w hS it p N L n x hx h)
  clear h hx
  go_enter Tryz.func92, Tryz.ntmps92
  go_wp2_with (go_at_call 136; refine H.out.mono ?_; rintro e w1 ⟨rfl, hg, hi⟩)
  exact bodyPost_ret (v := .tuple #[Value.int IntKind.i64 x.1, .bool true]) (by simp [results, Tryz.results92, go_sem]) rfl ⟨rfl, hg, hi⟩

set_option maxHeartbeats 2000000 in
theorem siPrev_at (kk nn : Int) (S : Nat → Prop) (w : World) (hS : ∀ x, S x → x < w.heap.size) (si it p N : Nat) (L : List (Int × Int)) (n : Nat) (x : Int × Int) (hx : L[n]? = some x) (hsi : w.cell? ⟨si, 0, none⟩ = some (.pointer (some ⟨it, 0, none⟩))) (h : ItAt kk nn w S it p N L n) :
    Calls Tryz.prog 68 #[.pointer (some ⟨si, 0, none⟩)] w fun e w' => e = .returned (.tuple #[Value.int IntKind.i64 x.1, .bool true]) ∧ w.grownBy w' (some it) ∧ ItAt kk nn w' S it p N L ((n : Int) - 1) := by
  have H := Lib.hid (itPrev_at kk nn S w hS it p N L n x hx h)
  clear h hx
  go_enter Tryz.func68, Tryz.ntmps68
  go_wp2_with (go_at_call 123; refine H.out.mono ?_; rintro e w1 ⟨rfl, hg, hi⟩)
  exact bodyPost_ret (v := .tuple #[Value.int IntKind.i64 x.1, .bool true]) (by simp [results, Tryz.results68, go_sem]) rfl ⟨rfl, hg, hi⟩

end Nis
end Go.Proofs.YtfejflhgaphilaaGreatDoor

namespace Go.Proofs.YtfejflhgaphilaaGreatDoor
open Go.RowKit Go.Sort Lst
namespace Nis

set_option maxHeartbeats 2000000 in
theorem setIter (kk nn : Int) (S : Nat → Prop) (w : World) (hS : ∀ x, S x → x < w.heap.size) (p N : Nat) (hN : N < 16 ^ 20) (L : List (Int × Int)) (hM : MapAt kk nn w S p N L) :
    Calls Tryz.prog 65 #[.agg #[.pointer (some ⟨p, 0, none⟩)]] w fun e w' => ∃ si it, e = .returned (.pointer (some ⟨si, 0, none⟩)) ∧ Below w.heap.size w w' ∧ w.heap.size ≤ si ∧ w.heap.size ≤ it ∧ si ≠ it ∧ si < w'.heap.size ∧
      w'.cell? ⟨si, 0, none⟩ = some (.pointer (some ⟨it, 0, none⟩)) ∧ ItAt kk nn w' S it p N L (landed 0 L.length) := by
  have hB := gNew w (.cells #[.pointer (some ⟨p, 0, none⟩)] 126)
  have hS1 : ∀ x, S x → x < (w.alloc (.cells #[.pointer (some ⟨p, 0, none⟩)] 126)).heap.size := fun x hx => Nat.lt_of_lt_of_le (hS x hx) hB.size
  have HI := Lib.hid (mapIter kk nn S _ hS1 p N hN L (hM.grow hS hB))
  have q := cell_new w (.pointer (some ⟨p, 0, none⟩)) 126
  have hsz : (w.alloc (.cells #[.pointer (some ⟨p, 0, none⟩)] 126)).heap.size = w.heap.size + 1 := alloc_sz _ _
  have HB := Lib.hid hB
  clear hM hB
  go_enter Tryz.func65, Tryz.ntmps65
  go_upto_region 2 with (go_at_call 119; refine HI.out.mono ?_; rintro e w1 ⟨rfl, hB1, hi1⟩)
  rw [hsz] at hi1
  have hB2 := gNew w1 (.cells #[.pointer (some ⟨w.heap.size + 1, 0, none⟩)] 177)
  have hS2 : ∀ x, S x → x < w1.heap.size := fun x hx => Nat.lt_of_lt_of_le (hS1 x hx) hB1.size
  have hi2 := hi1.grow hS2 hB2
  have qs := cell_new w1 (.pointer (some ⟨w.heap.size + 1, 0, none⟩)) 177
  obtain ⟨cells, z, hb, _⟩ := hi2.depth
  have hl : w.heap.size + 1 < w1.heap.size := by
    have := hi1.2.2
    obtain ⟨cells', z', hb', _⟩ := hi1.depth
    exact hb'.whole.lt
  have hF := itFirst kk nn S _ (fun x hx => Nat.lt_of_lt_of_le (hS2 x hx) hB2.size) (w.heap.size + 1) p N hN L hi2.1 hi2.2.1 cells hb
  have e0 : (if L = [] then (-1 : Int) else 0) = landed 0 L.length := by unfold landed; cases L <;> simp
  rw [e0] at hF
  have HF := Lib.hid hF
  have HB3 := Lib.hid (gTrans (gTrans HB.out hB1) hB2)
  have hsz2 : (w1.alloc (.cells #[.pointer (some ⟨w.heap.size + 1, 0, none⟩)] 177)).heap.size = w1.heap.size + 1 := alloc_sz _ _
  have HSZ2 := Lib.hid hsz2
  clear hF e0 hb hi1 hi2 hB1 hB2 HI HB q hsz hsz2
  generalize hg1 : w1.heap.size = g1 at *
  generalize w1.alloc (.cells #[.pointer (some ⟨w.heap.size + 1, 0, none⟩)] 177) = w2 at *
  clear hg1
  go_wp2_with (go_at_call 120; refine HF.out.mono ?_; rintro e w3 ⟨rfl, hg, hi⟩)
  go_ret
  exact ⟨g1, w.heap.size + 1, rfl, ⟨hg.os.trans HB3.out.os, hg.tape.trans HB3.out.tape, hg.output.trans HB3.out.output, Nat.le_trans HB3.out.size hg.size, fun b hb => (hg.block b (Nat.lt_of_lt_of_le hb HB3.out.size) (by intro e; injection e with e; omega)).trans (HB3.out.block b hb)⟩, by omega, by omega, by omega,
    by have := hg.size; have := HSZ2.out; omega, cell_block (hg.block g1 (by have := HSZ2.out; omega) (by intro e; injection e with e; omega)) qs, hi⟩
end Nis
end Go.Proofs.YtfejflhgaphilaaGreatDoor

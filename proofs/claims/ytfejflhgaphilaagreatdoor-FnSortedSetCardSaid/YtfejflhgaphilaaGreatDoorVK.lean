/-
  THE WALKS of the specification's remainder and comparison of two keys.
  THE WALKS of the thin package's small functions: comparers or none, keys of numbers and of texts, a version's number; what is too great; whether an order is one; a pair with the key that counts.
  THE WALK of 'thrown': a function that does not panic.
-/
import Derived.Test.YtfejflhgaphilaaGreatDoorVB
import Derived.Test.YtfejflhgaphilaaGreatDoorVA
import Derived.Test.YtfejflhgaphilaaGreatDoorVC
import Derived.StillTailTactics
import Derived.Deep.DeepCutAuto
import Derived.Deep.LoopGhost
import Derived.Defers
import Derived.Recover
set_option linter.all false
set_option linter.unusedVariables false
set_option linter.unusedSimpArgs false
set_option linter.unusedSectionVars false
namespace Go.Proofs.YtfejflhgaphilaaGreatDoor
open Go.RowKit Lst

abbrev I64 (x : Int) : Prop := -9223372036854775808 ≤ x ∧ x ≤ 9223372036854775807
/-- An order as the guards let in. -/
structure OrdOK (kk nn : Int) : Prop where
  lo : 0 ≤ kk
  hi : kk ≤ 3
  num : kk = 3 → 1 ≤ nn ∧ nn ≤ 1000

/-- A pair as a value, and its cells. -/
abbrev Pr.v (p : Pr) : Value := .agg #[.int .i64 p.key, .string p.text, .int .i64 p.val]
abbrev ordV (kk nn : Int) : Value := .agg #[.int .u8 kk, .int .i64 nn]

set_option maxHeartbeats 400000 in
theorem rest_any (a n : Int) (w : World) (h1 : 1 ≤ n) (h2 : n ≤ 1000) (ha : I64 a) :
    Calls Tryz.prog 124 #[.int .i64 a, .int .i64 n] w fun e w' => e = .returned (.int .i64 (a % n)) ∧ w = w' := by
  obtain ⟨ha, hb⟩ := ha
  obtain ⟨r1, r2, r3, r4⟩ := rem_lt a n h1
  by_cases h : a.tmod n < 0
  · have e := r1 h
    have HE := Lib.hid e
    clear e r1 r2
    go_enter Tryz.func124, Tryz.ntmps124
    go_wp2
    go_ret
    refine ⟨?_, rfl⟩
    rw [← HE.out]
    simp_all
  · have e := r2 h
    have HE := Lib.hid e
    clear e r1 r2
    go_enter Tryz.func124, Tryz.ntmps124
    go_wp2
    go_ret
    refine ⟨?_, rfl⟩
    rw [← HE.out]
    rfl

theorem tri3 (x y : Int) : (x < y ∧ ¬ y < x ∧ Hid (sgn x y = -1) ∧ Hid (sgn y x = 1)) ∨ (¬ x < y ∧ y < x ∧ Hid (sgn x y = 1) ∧ Hid (sgn y x = -1)) ∨ (¬ x < y ∧ ¬ y < x ∧ Hid (sgn x y = 0) ∧ Hid (sgn y x = 0)) := by
  rcases Int.lt_trichotomy x y with h | h | h
  · exact .inl ⟨h, by omega, (sgn_lt x y).2 h, (sgn_gt y x).2 h⟩
  · exact .inr (.inr ⟨by omega, by omega, (sgn_zero x y).2 h, (sgn_zero y x).2 h.symm⟩)
  · exact .inr (.inl ⟨by omega, h, (sgn_gt x y).2 h, (sgn_lt y x).2 h⟩)
theorem tri2 (x y : Int) (h : x ≠ y) : (x < y ∧ ¬ y < x ∧ Hid (sgn x y = -1) ∧ Hid (sgn y x = 1)) ∨ (¬ x < y ∧ y < x ∧ Hid (sgn x y = 1) ∧ Hid (sgn y x = -1)) := by
  rcases tri3 x y with h1 | h1 | ⟨h1, h2, _⟩
  · exact .inl h1
  · exact .inr h1
  · exact absurd (Int.le_antisymm (Int.not_lt.1 h2) (Int.not_lt.1 h1)) h

theorem still_left {P : Program} {f : FuncId} {args : Array Value} {w : World} {v : Value} (h : Calls P f args w fun e w' => e = .returned v ∧ w = w') : Calls P f args w fun e w' => e = .returned v ∧ w' = w :=
  h.mono fun _ _ ⟨he, hm⟩ => ⟨he, hm.symm⟩

set_option maxHeartbeats 4000000 in
set_option maxRecDepth 100000 in
theorem compareI (kk nn : Int) (a b : Pr) (w : World) (hO : OrdOK kk nn) (ha : I64 a.key) (hb : I64 b.key) :
    Calls Tryz.prog 73 #[ordV kk nn, .bool false, a.v, b.v] w fun e w' => e = .returned (.int .i64 (cmpP false kk nn a b)) ∧ Below w.heap.size w w' := by
  have e0 : cmpP false kk nn a b = cmpI kk nn a.key b.key := rfl
  rw [e0]
  obtain ⟨hk, hk3, hn⟩ := hO
  have hB := gNew3 w (.cells #[.int .u8 kk, .int .i64 nn] 23) (.cells #[.int .i64 a.key, .string a.text, .int .i64 a.val] 49) (.cells #[.int .i64 b.key, .string b.text, .int .i64 b.val] 49)
  obtain ⟨x, xt, xv⟩ := a
  obtain ⟨y, yt, yv⟩ := b
  simp only at ha hb hB ⊢
  have q0 : (((w.alloc (.cells #[.int .u8 kk, .int .i64 nn] 23)).alloc (.cells #[.int .i64 x, .string xt, .int .i64 xv] 49)).alloc (.cells #[.int .i64 y, .string yt, .int .i64 yv] 49)).cell? ⟨w.heap.size, 0, none⟩ = some (.int .u8 kk) := by go_simp
  have q1 : (((w.alloc (.cells #[.int .u8 kk, .int .i64 nn] 23)).alloc (.cells #[.int .i64 x, .string xt, .int .i64 xv] 49)).alloc (.cells #[.int .i64 y, .string yt, .int .i64 yv] 49)).cell? ⟨w.heap.size, 1, none⟩ = some (.int .i64 nn) := by go_simp
  have q2 : (((w.alloc (.cells #[.int .u8 kk, .int .i64 nn] 23)).alloc (.cells #[.int .i64 x, .string xt, .int .i64 xv] 49)).alloc (.cells #[.int .i64 y, .string yt, .int .i64 yv] 49)).cell? ⟨w.heap.size + 1, 0, none⟩ = some (.int .i64 x) := by go_simp
  have q3 : (((w.alloc (.cells #[.int .u8 kk, .int .i64 nn] 23)).alloc (.cells #[.int .i64 x, .string xt, .int .i64 xv] 49)).alloc (.cells #[.int .i64 y, .string yt, .int .i64 yv] 49)).cell? ⟨w.heap.size + 1, 1, none⟩ = some (.string xt) := by go_simp
  have q4 : (((w.alloc (.cells #[.int .u8 kk, .int .i64 nn] 23)).alloc (.cells #[.int .i64 x, .string xt, .int .i64 xv] 49)).alloc (.cells #[.int .i64 y, .string yt, .int .i64 yv] 49)).cell? ⟨w.heap.size + 1 + 1, 0, none⟩ = some (.int .i64 y) := by go_simp
  have q5 : (((w.alloc (.cells #[.int .u8 kk, .int .i64 nn] 23)).alloc (.cells #[.int .i64 x, .string xt, .int .i64 xv] 49)).alloc (.cells #[.int .i64 y, .string yt, .int .i64 yv] 49)).cell? ⟨w.heap.size + 1 + 1, 1, none⟩ = some (.string yt) := by go_simp
  have HB := Lib.hid hB
  clear hB
  by_cases h3 : kk = 3
  · subst h3
    obtain ⟨hn1, hn2⟩ := hn rfl
    have HX := Lib.hid (fun W => rest_any x nn W hn1 hn2 ha)
    have HY := Lib.hid (fun W => rest_any y nn W hn1 hn2 hb)
    have e1 : cmpI 3 nn x y = if x % nn = y % nn then sgn x y else sgn (x % nn) (y % nn) := rfl
    rw [e1]
    clear hn hn1 hn2 ha hb e0 e1 hk hk3
    generalize x % nn = rx at *
    generalize y % nn = ry at *
    by_cases hr : rx = ry
    · have hne : (rx != ry) = false := by simp [hr]
      have HR := Lib.hid hr
      clear hr
      rcases tri3 x y with ⟨h1, h2, HS, HS'⟩ | ⟨h1, h2, HS, HS'⟩ | ⟨h1, h2, HS, HS'⟩
      all_goals
        go_enter Tryz.func73, Tryz.ntmps73
        go_upto_region 4 with (fail)
        generalize ((w.alloc (.cells #[.int .u8 3, .int .i64 nn] 23)).alloc (.cells #[.int .i64 x, .string xt, .int .i64 xv] 49)).alloc (.cells #[.int .i64 y, .string yt, .int .i64 yv] 49) = wa at *
        refine wp_region_still_lit (by kernel_rfl) (by kernel_rfl) ?_
        change wpStill _ _ wa.drew _ _ _
        repeat still_step
        refine wpStill_nil ?_
        change Exit.then _ _ _ _ wa.drew
        go_upto_region 6 with (fail)
        refine wp_region_still_lit (by kernel_rfl) (by kernel_rfl) ?_
        change wpStill _ _ wa.drew.drew _ _ _
        repeat still_step
        still_call (still_left (HX.out wa.drew.drew))
        repeat still_step
        still_call (still_left (HY.out wa.drew.drew))
        repeat still_step
        refine wpStill_nil ?_
        change Exit.then _ _ _ _ wa.drew.drew
        go_wp2
        go_ret
        exact ⟨by simp [HR.out, HS.out], bDrewN HB.out 2⟩
    · have hne : (rx != ry) = true := by simp [hr]
      have HR := Lib.hid hr
      clear hr
      rcases tri2 rx ry HR.out with ⟨h1, h2, HS, HS'⟩ | ⟨h1, h2, HS, HS'⟩
      all_goals
        go_enter Tryz.func73, Tryz.ntmps73
        go_upto_region 4 with (fail)
        generalize ((w.alloc (.cells #[.int .u8 3, .int .i64 nn] 23)).alloc (.cells #[.int .i64 x, .string xt, .int .i64 xv] 49)).alloc (.cells #[.int .i64 y, .string yt, .int .i64 yv] 49) = wa at *
        refine wp_region_still_lit (by kernel_rfl) (by kernel_rfl) ?_
        change wpStill _ _ wa.drew _ _ _
        repeat still_step
        refine wpStill_nil ?_
        change Exit.then _ _ _ _ wa.drew
        go_upto_region 6 with (fail)
        refine wp_region_still_lit (by kernel_rfl) (by kernel_rfl) ?_
        change wpStill _ _ wa.drew.drew _ _ _
        repeat still_step
        still_call (still_left (HX.out wa.drew.drew))
        repeat still_step
        still_call (still_left (HY.out wa.drew.drew))
        repeat still_step
        refine wpStill_nil ?_
        change Exit.then _ _ _ _ wa.drew.drew
        go_wp2
        go_ret
        exact ⟨by simp [HR.out, HS.out], bDrewN HB.out 2⟩
  · have hk3 : (kk == 3) = false := by simp [h3]
    have H3 := Lib.hid h3
    clear h3 hn
    by_cases h4 : kk = 2
    · subst h4
      have e1 : cmpI 2 nn x y = sgn y x := rfl
      rw [e1]
      clear e0 e1
      rcases tri3 x y with ⟨h1, h2, HS, HS'⟩ | ⟨h1, h2, HS, HS'⟩ | ⟨h1, h2, HS, HS'⟩
      all_goals
        go_enter Tryz.func73, Tryz.ntmps73
        go_upto_region 4 with (fail)
        generalize ((w.alloc (.cells #[.int .u8 2, .int .i64 nn] 23)).alloc (.cells #[.int .i64 x, .string xt, .int .i64 xv] 49)).alloc (.cells #[.int .i64 y, .string yt, .int .i64 yv] 49) = wa at *
        refine wp_region_still_lit (by kernel_rfl) (by kernel_rfl) ?_
        change wpStill _ _ wa.drew _ _ _
        repeat still_step
        refine wpStill_nil ?_
        change Exit.then _ _ _ _ wa.drew
        go_wp2
        go_ret
        exact ⟨by simp [HS.out, HS'.out], bDrewN HB.out 1⟩
    · have hk2 : (kk == 2) = false := by simp [h4]
      have H4 := Lib.hid h4
      clear h4
      have e1 : cmpI kk nn x y = sgn x y := by unfold cmpI; rw [if_neg H4.out, if_neg H3.out]
      rw [e1]
      clear e0 e1
      rcases tri3 x y with ⟨h1, h2, HS, HS'⟩ | ⟨h1, h2, HS, HS'⟩ | ⟨h1, h2, HS, HS'⟩
      all_goals
        go_enter Tryz.func73, Tryz.ntmps73
        go_upto_region 4 with (fail)
        generalize ((w.alloc (.cells #[.int .u8 kk, .int .i64 nn] 23)).alloc (.cells #[.int .i64 x, .string xt, .int .i64 xv] 49)).alloc (.cells #[.int .i64 y, .string yt, .int .i64 yv] 49) = wa at *
        refine wp_region_still_lit (by kernel_rfl) (by kernel_rfl) ?_
        change wpStill _ _ wa.drew _ _ _
        repeat still_step
        refine wpStill_nil ?_
        change Exit.then _ _ _ _ wa.drew
        go_wp2
        go_ret
        exact ⟨by simp [HS.out, HS'.out], bDrewN HB.out 1⟩

end Go.Proofs.YtfejflhgaphilaaGreatDoor

namespace Go.Proofs.YtfejflhgaphilaaGreatDoor
open Go.RowKit Go.Sort Lst

def cvI (kk nn : Int) : Value := if kk = 0 then .nilIface else .iface 137 (ordV kk nn)
def cvS (kk nn : Int) : Value := if kk = 0 then .nilIface else .iface 123 (ordV kk nn)
abbrev keysI : Value := .agg #[.func (.func 69) #[] #[], .func (.func 70) #[] #[], .func (.func 71) #[] #[]]
abbrev keysS : Value := .agg #[.func (.func 55) #[] #[], .func (.func 56) #[] #[], .func (.func 58) #[] #[]]

/-- The call returns a boolean of which K holds. -/
def Says2 (e : Ending) (K : Bool → Prop) : Prop := ∃ b : Bool, e = .returned (.bool b) ∧ K b

theorem cmprOfI (kk nn : Int) (w : World) : Calls Tryz.prog 30 #[ordV kk nn] w fun e w' => e = .returned (cvI kk nn) ∧ Below w.heap.size w w' := by
  unfold cvI
  by_cases h : kk = 0
  · subst h
    go_enter Tryz.func30, Tryz.ntmps30
    go_wp2
    go_ret
    exact ⟨rfl, gNew _ _⟩
  · have hk : (kk == 0) = false := by simp [h]
    rw [if_neg h]
    go_enter Tryz.func30, Tryz.ntmps30
    go_wp2
    go_ret
    exact ⟨rfl, gNew _ _⟩

theorem cmprOfS (kk nn : Int) (w : World) : Calls Tryz.prog 27 #[ordV kk nn] w fun e w' => e = .returned (cvS kk nn) ∧ Below w.heap.size w w' := by
  unfold cvS
  by_cases h : kk = 0
  · subst h
    go_enter Tryz.func27, Tryz.ntmps27
    go_wp2
    go_ret
    exact ⟨rfl, gNew _ _⟩
  · have hk : (kk == 0) = false := by simp [h]
    rw [if_neg h]
    go_enter Tryz.func27, Tryz.ntmps27
    go_wp2
    go_ret
    exact ⟨rfl, gNew _ _⟩

theorem keysOfI (w : World) : Calls Tryz.prog 29 #[] w fun e w' => e = .returned keysI ∧ Below w.heap.size w w' := by
  have hs : ∀ (a : Addr) (fn : Fn) (first cap : Array Value) (w : World), (store a (.func fn first cap)).run Tryz.prog w = stored Tryz.prog w a (.func fn first cap) .plain := fun _ _ _ _ _ => run_store _ _ _ _ _ rfl
  go_enter Tryz.func29, Tryz.ntmps29
  go_wp2
  exact bodyPost_ret (v := keysI) (by simp [results, Tryz.results29, go_sem]) rfl ⟨rfl, gNew _ _⟩
theorem keysOfS (w : World) : Calls Tryz.prog 26 #[] w fun e w' => e = .returned keysS ∧ Below w.heap.size w w' := by
  have hs : ∀ (a : Addr) (fn : Fn) (first cap : Array Value) (w : World), (store a (.func fn first cap)).run Tryz.prog w = stored Tryz.prog w a (.func fn first cap) .plain := fun _ _ _ _ _ => run_store _ _ _ _ _ rfl
  go_enter Tryz.func26, Tryz.ntmps26
  go_wp2
  exact bodyPost_ret (v := keysS) (by simp [results, Tryz.results26, go_sem]) rfl ⟨rfl, gNew _ _⟩

theorem keyI (n : Int) (s : ByteArray) (w : World) : Calls Tryz.prog 69 #[.int .i64 n, .string s] w fun e w' => e = .returned (.int .i64 n) ∧ w' = w := by
  go_enter Tryz.func69, Tryz.ntmps69
  go_wp2
  go_ret
  exact ⟨rfl, rfl⟩
theorem keyS (n : Int) (s : ByteArray) (w : World) : Calls Tryz.prog 55 #[.int .i64 n, .string s] w fun e w' => e = .returned (.string s) ∧ w' = w := by
  go_enter Tryz.func55, Tryz.ntmps55
  go_wp2
  go_ret
  exact ⟨rfl, rfl⟩

theorem pairI (k v : Int) (w : World) : Calls Tryz.prog 71 #[.int .i64 k, .int .i64 v] w fun e w' => e = .returned ((embI (k, v)).v) ∧ Below w.heap.size w w' := by
  go_enter Tryz.func71, Tryz.ntmps71
  go_wp2
  exact bodyPost_ret (v := .agg #[.int .i64 k, .string ⟨#[]⟩, .int .i64 v]) (by simp [results, Tryz.results71, go_sem]) rfl ⟨rfl, gNew _ _⟩
theorem pairS (k : ByteArray) (v : Int) (w : World) : Calls Tryz.prog 58 #[.string k, .int .i64 v] w fun e w' => e = .returned ((embS (k, v)).v) ∧ Below w.heap.size w w' := by
  go_enter Tryz.func58, Tryz.ntmps58
  go_wp2
  exact bodyPost_ret (v := .agg #[.int .i64 0, .string k, .int .i64 v]) (by simp [results, Tryz.results58, go_sem]) rfl ⟨rfl, gNew _ _⟩

theorem right_any (kk nn : Int) (w : World) (h0 : 0 ≤ kk) : Calls Tryz.prog 20 #[ordV kk nn] w fun e w' => Says2 e (fun b => b = true → OrdOK kk nn) ∧ Below w.heap.size w w' := by
  by_cases h3 : kk ≤ 3
  · by_cases h : kk = 3
    · subst h
      by_cases h1 : 1 ≤ nn
      · by_cases h2 : nn ≤ 1000
        · go_enter Tryz.func20, Tryz.ntmps20
          go_wp2
          go_ret
          exact ⟨⟨true, rfl, fun _ => ⟨h0, h3, fun _ => ⟨h1, h2⟩⟩⟩, gNew _ _⟩
        · go_enter Tryz.func20, Tryz.ntmps20
          go_wp2
          go_ret
          exact ⟨⟨false, rfl, fun h => (by cases h)⟩, gNew _ _⟩
      · go_enter Tryz.func20, Tryz.ntmps20
        go_wp2
        go_ret
        exact ⟨⟨false, rfl, fun h => (by cases h)⟩, gNew _ _⟩
    · have hk : (kk != 3) = true := by simp [h]
      have HO : OrdOK kk nn := ⟨h0, h3, fun e => absurd e h⟩
      clear h
      go_enter Tryz.func20, Tryz.ntmps20
      go_wp2
      go_ret
      exact ⟨⟨true, rfl, fun _ => HO⟩, gNew _ _⟩
  · go_enter Tryz.func20, Tryz.ntmps20
    go_wp2
    go_ret
    exact ⟨⟨false, rfl, fun h => (by cases h)⟩, gNew _ _⟩

set_option maxHeartbeats 1000000 in
theorem at_any (n : Int) (m : Nat) (w : World) (hm : 0 < m) (hm2 : m ≤ 1000000) (hn : I64 n) :
    Calls Tryz.prog 45 #[.int .i64 n, .int .i64 m] w fun e w' => e = .returned (.int .i64 (n % (m : Int))) ∧ w' = w := by
  obtain ⟨ha, hb⟩ := hn
  obtain ⟨r1, r2, r3, r4⟩ := rem_lt n m (by omega)
  have hmi : (0 : Int) < (m : Int) := by omega
  by_cases h : n.tmod m < 0
  · have HE := Lib.hid (r1 h)
    clear r1 r2
    go_enter Tryz.func45, Tryz.ntmps45
    go_wp2
    go_ret
    refine ⟨?_, rfl⟩
    rw [← HE.out]
    rfl
  · have HE := Lib.hid (r2 h)
    clear r1 r2
    go_enter Tryz.func45, Tryz.ntmps45
    go_wp2
    go_ret
    refine ⟨?_, rfl⟩
    rw [← HE.out]
    rfl
end Go.Proofs.YtfejflhgaphilaaGreatDoor

namespace Go.Proofs.YtfejflhgaphilaaGreatDoor
open Go.RowKit Go.Sort Lst

theorem caught (p : Addr) (w : World) (b : Bool) (hc : w.cell? p = some (.bool b)) (hz : w.frozen? p = false) :
    CallsD Tryz.prog 43 #[.pointer (some p)] .returning w fun e u' w' => e = .returned (.tuple #[]) ∧ u' = .returning ∧ w' = w.setCell p (.bool false) := by
  refine callsD_of_wpS Tryz.func43 rfl fun c₀ cs hu => ?_
  apply wpS_region
  simp [wpOpsS, go_sem, recoverD, hu, Tryz.ntmps43, Exit.thenS, hc, hz, bodyPostS, results, Tryz.results43]
  cases c₀
  simp only at hu
  subst hu
  rfl

theorem thrown_any (g : Nat) (cb : Array Value) (w : World) (eg : ∀ args w, (callFunc g args).run Tryz.prog w = .ok (.enter g args) w) (R : World → Prop)
    (hf : Calls Tryz.prog g cb (w.alloc (.cells #[.bool false] 4)) fun e w1 => e = .returned (.tuple #[]) ∧ w1.cell? ⟨w.heap.size, 0, none⟩ = some (.bool false) ∧ w1.frozen? ⟨w.heap.size, 0, none⟩ = false ∧ R w1) :
    Calls Tryz.prog 23 #[.func (.func g) #[] cb] w fun e w' => e = .returned (.bool false) ∧ ∃ w1, R w1 ∧ w' = (w1.setCell ⟨w.heap.size, 0, none⟩ (.bool false)).setCell ⟨w.heap.size, 0, none⟩ (.bool false) := by
  have hmf : ∀ (fn : Fn) (first cap : Array Value) (w : World), (Instr.makeFunc fn first cap).run Tryz.prog w = .ok (.func fn first cap) w := fun _ _ _ _ => rfl
  have HF := Lib.hid hf
  clear hf
  go_enter_defers Tryz.func23, Tryz.ntmps23
  go_wp2_with (go_at_fn g; refine HF.out.mono ?_; rintro e w1 ⟨rfl, q, z, hR⟩)
  refine leaves_cons (f := 43) (args := #[.pointer (some ⟨w.heap.size, 0, none⟩)]) (by simp) (by simp [go_sem]) ?_
  refine (caught ⟨w.heap.size, 0, none⟩ _ false (set_same q) ?_).mono ?_
  · simp [go_sem, z]
  rintro e u' w'' ⟨rfl, rfl, rfl⟩
  simp [Leaves, settle, results, Tryz.results23, go_sem, q]
  exact ⟨w1, hR, rfl⟩
end Go.Proofs.YtfejflhgaphilaaGreatDoor

/-
  THE WALK of the specification's comparison of two texts; and the comparison of whichever keys.
-/
import Derived.Test.YtfejflhgaphilaaGreatDoorVK
set_option linter.all false
set_option linter.unusedVariables false
set_option linter.unusedSimpArgs false
set_option linter.unusedSectionVars false
namespace Go.Proofs.YtfejflhgaphilaaGreatDoor
open Go.RowKit Lst

theorem rxy (rx ry : Int) : ((rx != ry) = true ∧ rx < ry ∧ ¬ ry < rx) ∨ ((rx != ry) = true ∧ ¬ rx < ry ∧ ry < rx) ∨ ((rx != ry) = false ∧ True ∧ True) := by
  rcases Int.lt_trichotomy rx ry with h | h | h
  · exact .inl ⟨bne_iff_ne.2 (by omega), h, by omega⟩
  · exact .inr (.inr ⟨by simp [h], trivial, trivial⟩)
  · exact .inr (.inl ⟨bne_iff_ne.2 (by omega), by omega, h⟩)

theorem triC (x y : ByteArray) : (Op.bytesLess x.toList y.toList = true ∧ (x.toList == y.toList) = false ∧ Hid (cb x y = -1) ∧ Hid (cb y x = 1)) ∨
    (Op.bytesLess x.toList y.toList = false ∧ (x.toList == y.toList) = false ∧ Hid (cb x y = 1) ∧ Hid (cb y x = -1)) ∨
    (Op.bytesLess x.toList y.toList = false ∧ (x.toList == y.toList) = true ∧ Hid (cb x y = 0) ∧ Hid (cb y x = 0)) := by
  rcases ord_cb.range x y with h | h | h
  · have h2 := (ord_cb.swap x y).1 h
    exact .inl ⟨by rw [less_cb, h]; rfl, by rw [eq_cb, h]; rfl, h, h2⟩
  · have h2 := ord_cb.symm x y h
    exact .inr (.inr ⟨by rw [less_cb, h]; rfl, by rw [eq_cb, h]; rfl, h, h2⟩)
  · have h2 := (ord_cb.swap y x).2 h
    exact .inr (.inl ⟨by rw [less_cb, h]; rfl, by rw [eq_cb, h]; rfl, h, h2⟩)

set_option maxHeartbeats 8000000 in
set_option maxRecDepth 100000 in
theorem compareT (kk nn : Int) (a b : Pr) (w : World) (hO : OrdOK kk nn) (ha : I64 a.key) (hb : I64 b.key) :
    Calls Tryz.prog 73 #[ordV kk nn, .bool true, a.v, b.v] w fun e w' => e = .returned (.int .i64 (cmpP true kk nn a b)) ∧ Below w.heap.size w w' := by
  have e0 : cmpP true kk nn a b = cmpS kk a.text b.text := rfl
  rw [e0]
  obtain ⟨hk, hk3, hn⟩ := hO
  have hB := gNew3 w (.cells #[.int .u8 kk, .int .i64 nn] 23) (.cells #[.int .i64 a.key, .string a.text, .int .i64 a.val] 49) (.cells #[.int .i64 b.key, .string b.text, .int .i64 b.val] 49)
  obtain ⟨x, xt, xv⟩ := a
  obtain ⟨y, yt, yv⟩ := b
  simp only at ha hb hB ⊢
  have q0 : (((w.alloc (.cells #[.int .u8 kk, .int .i64 nn] 23)).alloc (.cells #[.int .i64 x, .string xt, .int .i64 xv] 49)).alloc (.cells #[.int .i64 y, .string yt, .int .i64 yv] 49)).cell? ⟨w.heap.size, 0, none⟩ = some (.int .u8 kk) := by go_simp
  have q1 : (((w.alloc (.cells #[.int .u8 kk, .int .i64 nn] 23)).alloc (.cells #[.int .i64 x, .string xt, .int .i64 xv] 49)).alloc (.cells #[.int .i64 y, .string yt, .int .i64 yv] 49)).cell? ⟨w.heap.size, 1, none⟩ = some (.int .i64 nn) := by go_simp
  have q2 : (((w.alloc (.cells #[.int .u8 kk, .int .i64 nn] 23)).alloc (.cells #[.int .i64 x, .string xt, .int .i64 xv] 49)).alloc (.cells #[.int .i64 y, .string yt, .int .i64 yv] 49)).cell? ⟨w.heap.size + 1, 0, none⟩ = some (.int .i64 x) := by go_simp
  have q3 : (((w.alloc (.cells #[.int .u8 kk, .int .i64 nn] 23)).alloc (.cells #[.int .i64 x, .string xt, .int .i64 xv] 49)).alloc (.cells #[.int .i64 y, .string yt, .int .i64 yv] 49)).cell? ⟨w.heap.size + 1, 1, none⟩ = some (.string xt) := by go_simp
  have q4 : (((w.alloc (.cells #[.int .u8 kk, .int .i64 nn] 23)).alloc (.cells #[.int .i64 x, .string xt, .int .i64 xv] 49)).alloc (.cells #[.int .i64 y, .string yt, .int .i64 yv] 49)).cell? ⟨w.heap.size + 1 + 1, 0, none⟩ = some (.int .i64 y) := by go_simp
  have q5 : (((w.alloc (.cells #[.int .u8 kk, .int .i64 nn] 23)).alloc (.cells #[.int .i64 x, .string xt, .int .i64 xv] 49)).alloc (.cells #[.int .i64 y, .string yt, .int .i64 yv] 49)).cell? ⟨w.heap.size + 1 + 1, 1, none⟩ = some (.string yt) := by go_simp
  have HB := Lib.hid hB
  clear hB
  by_cases h3 : kk = 3
  · subst h3
    obtain ⟨hn1, hn2⟩ := hn rfl
    have HX := Lib.hid (fun W => rest_any x nn W hn1 hn2 ha)
    have HY := Lib.hid (fun W => rest_any y nn W hn1 hn2 hb)
    have e1 : cmpS 3 xt yt = if xt.size = yt.size then cb xt yt else sgn xt.size yt.size := rfl
    rw [e1]
    clear hn hn1 hn2 ha hb e0 e1 hk hk3
    generalize x % nn = rx at *
    generalize y % nn = ry at *
    have hr : ((rx != ry) = true ∧ rx < ry ∧ ¬ ry < rx) ∨ ((rx != ry) = true ∧ ¬ rx < ry ∧ ry < rx) ∨ ((rx != ry) = false ∧ True ∧ True) := rxy rx ry
    by_cases hsz : xt.size = yt.size
    · have hse : ((xt.size : Int) != (yt.size : Int)) = false := by simp [hsz]
      have HZ := Lib.hid hsz
      clear hsz
      rcases hr with ⟨hr, hr1, hr2⟩ | ⟨hr, hr1, hr2⟩ | ⟨hr, _, _⟩
      all_goals
        rcases triC xt yt with ⟨h1, h2, HS, HS'⟩ | ⟨h1, h2, HS, HS'⟩ | ⟨h1, h2, HS, HS'⟩
        all_goals
          go_enter Tryz.func73, Tryz.ntmps73
          go_upto_region 4 with (fail)
          generalize ((w.alloc (.cells #[.int .u8 3, .int .i64 nn] 23)).alloc (.cells #[.int .i64 x, .string xt, .int .i64 xv] 49)).alloc (.cells #[.int .i64 y, .string yt, .int .i64 yv] 49) = wa at *
          refine wp_region_still_lit (by kernel_rfl) (by kernel_rfl) ?_
          change wpStill _ _ wa.drew _ _ _
          repeat still_step
          refine wpStill_nil ?_
          change Exit.then _ _ _ _ wa.drew
          go_upto_region 6 with (fail)
          refine wp_region_still_lit (by kernel_rfl) (by kernel_rfl) ?_
          change wpStill _ _ wa.drew.drew _ _ _
          repeat still_step
          still_call (still_left (HX.out wa.drew.drew))
          repeat still_step
          still_call (still_left (HY.out wa.drew.drew))
          repeat still_step
          refine wpStill_nil ?_
          change Exit.then _ _ _ _ wa.drew.drew
          go_upto_region 10 with (fail)
          refine wp_region_still_lit (by kernel_rfl) (by kernel_rfl) ?_
          change wpStill _ _ wa.drew.drew.drew _ _ _
          repeat still_step
          refine wpStill_nil ?_
          change Exit.then _ _ _ _ wa.drew.drew.drew
          go_wp2
          go_ret
          exact ⟨by simp [HZ.out, HS.out], bDrewN HB.out 3⟩
    · have hse : ((xt.size : Int) != (yt.size : Int)) = true := by rw [bne_iff_ne]; omega
      have HZ := Lib.hid hsz
      have hzi : (xt.size : Int) ≠ (yt.size : Int) := by omega
      have HZI := Lib.hid hzi
      clear hsz hzi
      have hbl : ∃ B1 B2, Op.bytesLess xt.toList yt.toList = B1 ∧ (xt.toList == yt.toList) = B2 := ⟨_, _, rfl, rfl⟩
      obtain ⟨B1, B2, hb1, hb2⟩ := hbl
      rcases hr with ⟨hr, hr1, hr2⟩ | ⟨hr, hr1, hr2⟩ | ⟨hr, _, _⟩
      all_goals
        rcases tri2 (xt.size : Int) (yt.size : Int) HZI.out with ⟨h1, h2, HS, HS'⟩ | ⟨h1, h2, HS, HS'⟩
        all_goals
          go_enter Tryz.func73, Tryz.ntmps73
          go_upto_region 4 with (fail)
          generalize ((w.alloc (.cells #[.int .u8 3, .int .i64 nn] 23)).alloc (.cells #[.int .i64 x, .string xt, .int .i64 xv] 49)).alloc (.cells #[.int .i64 y, .string yt, .int .i64 yv] 49) = wa at *
          refine wp_region_still_lit (by kernel_rfl) (by kernel_rfl) ?_
          change wpStill _ _ wa.drew _ _ _
          repeat still_step
          refine wpStill_nil ?_
          change Exit.then _ _ _ _ wa.drew
          go_upto_region 6 with (fail)
          refine wp_region_still_lit (by kernel_rfl) (by kernel_rfl) ?_
          change wpStill _ _ wa.drew.drew _ _ _
          repeat still_step
          still_call (still_left (HX.out wa.drew.drew))
          repeat still_step
          still_call (still_left (HY.out wa.drew.drew))
          repeat still_step
          refine wpStill_nil ?_
          change Exit.then _ _ _ _ wa.drew.drew
          go_upto_region 10 with (fail)
          refine wp_region_still_lit (by kernel_rfl) (by kernel_rfl) ?_
          change wpStill _ _ wa.drew.drew.drew _ _ _
          repeat still_step
          refine wpStill_nil ?_
          change Exit.then _ _ _ _ wa.drew.drew.drew
          go_upto_region 12 with (fail)
          refine wp_region_still_lit (by kernel_rfl) (by kernel_rfl) ?_
          change wpStill _ _ wa.drew.drew.drew.drew _ _ _
          repeat still_step
          refine wpStill_nil ?_
          change Exit.then _ _ _ _ wa.drew.drew.drew.drew
          go_wp2
          go_ret
          exact ⟨by simp [HZ.out, HS.out], bDrewN HB.out 4⟩
  · have hk3 : (kk == 3) = false := by simp [h3]
    have H3 := Lib.hid h3
    clear h3 hn
    by_cases h4 : kk = 2
    · subst h4
      have e1 : cmpS 2 xt yt = cb yt xt := rfl
      rw [e1]
      clear e0 e1
      rcases triC xt yt with ⟨h1, h2, HS, HS'⟩ | ⟨h1, h2, HS, HS'⟩ | ⟨h1, h2, HS, HS'⟩
      all_goals
        go_enter Tryz.func73, Tryz.ntmps73
        go_upto_region 4 with (fail)
        generalize ((w.alloc (.cells #[.int .u8 2, .int .i64 nn] 23)).alloc (.cells #[.int .i64 x, .string xt, .int .i64 xv] 49)).alloc (.cells #[.int .i64 y, .string yt, .int .i64 yv] 49) = wa at *
        refine wp_region_still_lit (by kernel_rfl) (by kernel_rfl) ?_
        change wpStill _ _ wa.drew _ _ _
        repeat still_step
        refine wpStill_nil ?_
        change Exit.then _ _ _ _ wa.drew
        go_upto_region 10 with (fail)
        refine wp_region_still_lit (by kernel_rfl) (by kernel_rfl) ?_
        change wpStill _ _ wa.drew.drew _ _ _
        repeat still_step
        refine wpStill_nil ?_
        change Exit.then _ _ _ _ wa.drew.drew
        go_wp2
        go_ret
        exact ⟨by simp [HS'.out], bDrewN HB.out 2⟩
    · have hk2 : (kk == 2) = false := by simp [h4]
      have H4 := Lib.hid h4
      clear h4
      have e1 : cmpS kk xt yt = cb xt yt := by unfold cmpS; rw [if_neg H4.out, if_neg H3.out]
      rw [e1]
      clear e0 e1
      rcases triC xt yt with ⟨h1, h2, HS, HS'⟩ | ⟨h1, h2, HS, HS'⟩ | ⟨h1, h2, HS, HS'⟩
      all_goals
        go_enter Tryz.func73, Tryz.ntmps73
        go_upto_region 4 with (fail)
        generalize ((w.alloc (.cells #[.int .u8 kk, .int .i64 nn] 23)).alloc (.cells #[.int .i64 x, .string xt, .int .i64 xv] 49)).alloc (.cells #[.int .i64 y, .string yt, .int .i64 yv] 49) = wa at *
        refine wp_region_still_lit (by kernel_rfl) (by kernel_rfl) ?_
        change wpStill _ _ wa.drew _ _ _
        repeat still_step
        refine wpStill_nil ?_
        change Exit.then _ _ _ _ wa.drew
        go_upto_region 10 with (fail)
        refine wp_region_still_lit (by kernel_rfl) (by kernel_rfl) ?_
        change wpStill _ _ wa.drew.drew _ _ _
        repeat still_step
        refine wpStill_nil ?_
        change Exit.then _ _ _ _ wa.drew.drew
        go_wp2
        go_ret
        exact ⟨by simp [HS.out], bDrewN HB.out 2⟩

theorem compare_any (txt : Bool) (kk nn : Int) (a b : Pr) (w : World) (hO : OrdOK kk nn) (ha : I64 a.key) (hb : I64 b.key) :
    Calls Tryz.prog 73 #[ordV kk nn, .bool txt, a.v, b.v] w fun e w' => e = .returned (.int .i64 (cmpP txt kk nn a b)) ∧ Below w.heap.size w w' := by
  cases txt
  · exact compareI kk nn a b w hO ha hb
  · exact compareT kk nn a b w hO ha hb
end Go.Proofs.YtfejflhgaphilaaGreatDoor

/-
  DERIVED: THE SHELF's CONTRACTS AT THIS DUMP, IN PLAIN WORDS (tools/lay-plain.mjs out of 'TryzShelf.lean', which tools/lay-shelf.mjs wrote): THE SAME DECLARATIONS UNDER THE SAME NAMES: 'import', 'namespace', 'open', 'def', 'theorem' AND NOTHING ELSE: no command of the shelf's: FOR A HAND-IN. Each laying: the table of numbers ('.._ren') and one theorem, a field a fact of the dump's own or the kernel's comparison; each contract: ONE APPLICATION.
  THE WALKS of the comparers: the package's own, and the thin package's.
-/
import Derived.Shelf.Small.Strs
import Derived.Shelf.Strconv.Itoa0
import Derived.Shelf.Strconv.Itoa1
import Derived.Shelf.LaysM
import Derived.Shelf.Strconv.Itoa2
import Derived.Shelf.Strconv.Itoa3
import Derived.Shelf.Strconv.Itoa4
import Derived.Test.YtfejflhgaphilaaGreatDoorProg
import Derived.Test.YtfejflhgaphilaaGreatDoorVA
import Derived.WalkKit
import Derived.WalkSpells
import Derived.WalkLawsBesides
import Derived.Deep.QuietTactic
import Derived.BigQuiet
import Derived.Lib.Hide
import Derived.Lib.QuietBelow
set_option linter.all false
set_option linter.unusedVariables false
set_option linter.unusedSimpArgs false
set_option linter.unusedSectionVars false
namespace Go.Proofs
open Go.Shelf
def Tryz.lays213_ren : Go.Shelf.Ren := ⟨fun | 213 => 211 | 265 => 212 | n => n, fun | 9 => 9 | 3 => 3 | n => n, fun | n => n⟩
def Tryz.lays106_ren : Go.Shelf.Ren := ⟨fun | 106 => 207 | 213 => 211 | 265 => 212 | n => n, fun | 9 => 9 | 3 => 3 | n => n, fun | n => n⟩
theorem Tryz.lays106 : Go.Proofs.Lays.n106 Tryz.prog Tryz.lays106_ren := {
  mixed := by kernel_rfl
  f106 := Tryz.func207.trans (congrArg some (by kernel_rfl))
  f213 := Tryz.func211.trans (congrArg some (by kernel_rfl))
  f265 := Tryz.func212.trans (congrArg some (by kernel_rfl))
  t3 := Tryz.underlying3
  a3 := Tryz.isAgg3
  z3 := Tryz.sizeOf3
  v3 := Tryz.zeroValue3
  t9 := Tryz.underlying9
  a9 := Tryz.isAgg9
  z9 := Tryz.sizeOf9
  v9 := Tryz.zeroValue9 }
open Go.RowKit in
/-- strings.Compare: "Compare returns an integer comparing two strings lexicographically. The result will be 0 if a == b, -1 if a < b, and +1 if a > b.": IT RETURNS 'Lib.compareBytes a b'; the world is as it was. (LAID: no walk: one application.) -/
theorem Tryz.strings_Compare (a b : ByteArray) (w : World) :
    Calls Tryz.prog 207 #[.string a, .string b] w fun e w' => e = .returned (.int .i64 (Lib.compareBytes a.data.toList b.data.toList)) ∧ w' = w := Any.strings_Compare Tryz.lays106 a b w
def Tryz.lays129_ren : Go.Shelf.Ren := ⟨fun | 129 => 178 | n => n, fun | 53 => 180 | 3 => 3 | 4 => 4 | 46 => 312 | 5 => 5 | 9 => 9 | n => n, fun | n => n⟩
def Tryz.lays317_ren : Go.Shelf.Ren := ⟨fun | 317 => 177 | n => n, fun | 3 => 3 | 46 => 312 | n => n, fun | n => n⟩
def Tryz.lays318_ren : Go.Shelf.Ren := ⟨fun | 318 => 179 | n => n, fun | 3 => 3 | 4 => 4 | n => n, fun | n => n⟩
def Tryz.lays283_ren : Go.Shelf.Ren := ⟨fun | 283 => 156 | n => n, fun | 3 => 3 | 9 => 9 | 4 => 4 | n => n, fun | n => n⟩
def Tryz.laysM284_ren : Go.Shelf.Ren := ⟨fun | 284 => 157 | 129 => 178 | 317 => 177 | 318 => 179 | n => n, fun | 53 => 180 | 3 => 3 | 212 => 327 | 0 => 0 | 4 => 4 | 46 => 312 | 5 => 5 | 9 => 9 | n => n, fun | 17 => 0 | n => n⟩
def Tryz.lays285_ren : Go.Shelf.Ren := ⟨fun | 285 => 158 | n => n, fun | 37 => 181 | 53 => 180 | 3 => 3 | 4 => 4 | 51 => 314 | 9 => 9 | 5 => 5 | 0 => 0 | n => n, fun | n => n⟩
def Tryz.laysM246_ren : Go.Shelf.Ren := ⟨fun | 246 => 112 | 283 => 156 | 284 => 157 | 285 => 158 | 286 => 159 | 129 => 178 | 317 => 177 | 318 => 179 | 319 => 180 | 320 => 181 | 337 => 182 | 338 => 183 | n => n, fun | 2 => 2 | 3 => 3 | 9 => 9 | 4 => 4 | 171 => 254 | 0 => 0 | 53 => 180 | 37 => 181 | 5 => 5 | 173 => 257 | 212 => 327 | 51 => 314 | 20 => 20 | 213 => 328 | 46 => 312 | 232 => 346 | 233 => 347 | n => n, fun | 17 => 0 | 18 => 1 | 19 => 2 | n => n⟩
def Tryz.lays246_ren : Go.Shelf.Ren := ⟨fun | 246 => 112 | 283 => 156 | 284 => 157 | 285 => 158 | 286 => 159 | 129 => 178 | 317 => 177 | 318 => 179 | 319 => 180 | 320 => 181 | 337 => 182 | 338 => 183 | n => n, fun | 2 => 2 | 3 => 3 | 9 => 9 | 4 => 4 | 171 => 254 | 0 => 0 | 53 => 180 | 37 => 181 | 5 => 5 | 173 => 257 | 212 => 327 | 51 => 314 | 20 => 20 | 213 => 328 | 46 => 312 | 232 => 346 | 233 => 347 | n => n, fun | 17 => 0 | 18 => 1 | 19 => 2 | n => n⟩
def Tryz.laysM173_ren : Go.Shelf.Ren := ⟨fun | 173 => 57 | 246 => 112 | 283 => 156 | 284 => 157 | 285 => 158 | 286 => 159 | 129 => 178 | 317 => 177 | 318 => 179 | 319 => 180 | 320 => 181 | 337 => 182 | 338 => 183 | n => n, fun | 2 => 2 | 3 => 3 | 9 => 9 | 4 => 4 | 171 => 254 | 0 => 0 | 53 => 180 | 37 => 181 | 5 => 5 | 173 => 257 | 212 => 327 | 51 => 314 | 20 => 20 | 213 => 328 | 46 => 312 | 232 => 346 | 233 => 347 | n => n, fun | 17 => 0 | 18 => 1 | 19 => 2 | n => n⟩
theorem Tryz.laysM173 : Go.Proofs.LaysM.n173 Tryz.prog Tryz.laysM173_ren := {
  mixed := by kernel_rfl
  f129 := Tryz.func178.trans (congrArg some (by kernel_rfl))
  f173 := Tryz.func57.trans (congrArg some (by kernel_rfl))
  f246 := Tryz.func112.trans (congrArg some (by kernel_rfl))
  f283 := Tryz.func156.trans (congrArg some (by kernel_rfl))
  f284 := Tryz.func157.trans (congrArg some (by kernel_rfl))
  f285 := Tryz.func158.trans (congrArg some (by kernel_rfl))
  f286 := Tryz.func159.trans (congrArg some (by kernel_rfl))
  f317 := Tryz.func177.trans (congrArg some (by kernel_rfl))
  f318 := Tryz.func179.trans (congrArg some (by kernel_rfl))
  f319 := Tryz.func180.trans (congrArg some (by kernel_rfl))
  f320 := Tryz.func181.trans (congrArg some (by kernel_rfl))
  f337 := Tryz.func182.trans (congrArg some (by kernel_rfl))
  f338 := Tryz.func183.trans (congrArg some (by kernel_rfl))
  t0 := Tryz.underlying0
  a0 := Tryz.isAgg0
  z0 := Tryz.sizeOf0
  v0 := Tryz.zeroValue0
  t2 := Tryz.underlying2
  a2 := Tryz.isAgg2
  z2 := Tryz.sizeOf2
  v2 := Tryz.zeroValue2
  t3 := Tryz.underlying3
  a3 := Tryz.isAgg3
  z3 := Tryz.sizeOf3
  v3 := Tryz.zeroValue3
  t4 := Tryz.underlying4
  a4 := Tryz.isAgg4
  z4 := Tryz.sizeOf4
  v4 := Tryz.zeroValue4
  t5 := Tryz.underlying5
  a5 := Tryz.isAgg5
  z5 := Tryz.sizeOf5
  v5 := Tryz.zeroValue5
  t9 := Tryz.underlying9
  a9 := Tryz.isAgg9
  z9 := Tryz.sizeOf9
  v9 := Tryz.zeroValue9
  t20 := Tryz.underlying20
  a20 := Tryz.isAgg20
  z20 := Tryz.sizeOf20
  v20 := Tryz.zeroValue20
  t37 := Tryz.underlying181
  a37 := Tryz.isAgg181
  z37 := Tryz.sizeOf181
  v37 := Tryz.zeroValue181
  t46 := Tryz.underlying312
  a46 := Tryz.isAgg312
  z46 := Tryz.sizeOf312
  v46 := Tryz.zeroValue312
  t51 := Tryz.underlying314
  a51 := Tryz.isAgg314
  z51 := Tryz.sizeOf314
  v51 := Tryz.zeroValue314
  t53 := Tryz.underlying180
  a53 := Tryz.isAgg180
  z53 := Tryz.sizeOf180
  v53 := Tryz.zeroValue180
  t171 := Tryz.underlying254
  a171 := Tryz.isAgg254
  z171 := Tryz.sizeOf254
  v171 := Tryz.zeroValue254
  t173 := Tryz.underlying257
  a173 := Tryz.isAgg257
  z173 := Tryz.sizeOf257
  v173 := Tryz.zeroValue257
  t212 := Tryz.underlying327
  a212 := Tryz.isAgg327
  z212 := Tryz.sizeOf327
  v212 := Tryz.zeroValue327
  t213 := Tryz.underlying328
  a213 := Tryz.isAgg328
  z213 := Tryz.sizeOf328
  t232 := Tryz.underlying346
  a232 := Tryz.isAgg346
  z232 := Tryz.sizeOf346
  v232 := Tryz.zeroValue346
  t233 := Tryz.underlying347
  a233 := Tryz.isAgg347
  z233 := Tryz.sizeOf347
  v233 := Tryz.zeroValue347
  g17 := by kernel_rfl
  g18 := by kernel_rfl
  g19 := by kernel_rfl
  i0 := by kernel_rfl
  i2 := by kernel_rfl
  i3 := by kernel_rfl
  i4 := by kernel_rfl
  i5 := by kernel_rfl
  i9 := by kernel_rfl
  i20 := by kernel_rfl
  i37 := by kernel_rfl
  i46 := by kernel_rfl
  i51 := by kernel_rfl
  i53 := by kernel_rfl
  i171 := by kernel_rfl
  i173 := by kernel_rfl
  i212 := by kernel_rfl
  i232 := by kernel_rfl
  i233 := by kernel_rfl
  m17 := by kernel_rfl
  m18 := by kernel_rfl
  m19 := by kernel_rfl }
open Go.RowKit Go.Sort Go.Lib in
/-- strconv.FormatInt: "FormatInt returns the string representation of i in the given base": AT BASE 10: i's decimal numeral, for every int64. (LAID: no walk: one application.) -/
theorem Tryz.strconv_FormatInt_10 (n : Int) (h0 : -9223372036854775808 ≤ n) (h1 : n ≤ 9223372036854775807) (w : World) (htab : Lib.TabIs Tryz.prog w "internal/strconv.uint64pow10" .u64 Lib.pow10Tab) :
    Calls Tryz.prog 57 #[.int .i64 n, .int .i64 10] w fun e w' => e = .returned (.string ⟨(Lib.itoa n).toArray⟩) ∧ ∃ k os, w' = grow (w.drewN k) os := Any.strconv_FormatInt_10 Tryz.laysM173 n h0 h1 w htab
def Tryz.lays173_ren : Go.Shelf.Ren := ⟨fun | 173 => 57 | 246 => 112 | 283 => 156 | 284 => 157 | 285 => 158 | 286 => 159 | 129 => 178 | 317 => 177 | 318 => 179 | 319 => 180 | 320 => 181 | 337 => 182 | 338 => 183 | n => n, fun | 2 => 2 | 3 => 3 | 9 => 9 | 4 => 4 | 171 => 254 | 0 => 0 | 53 => 180 | 37 => 181 | 5 => 5 | 173 => 257 | 212 => 327 | 51 => 314 | 20 => 20 | 213 => 328 | 46 => 312 | 232 => 346 | 233 => 347 | n => n, fun | 17 => 0 | 18 => 1 | 19 => 2 | n => n⟩
end Go.Proofs

namespace Go.Proofs.YtfejflhgaphilaaGreatDoor
open Go.RowKit

set_option maxHeartbeats 400000 in
theorem compared_any (a b : Int) (w : World) :
    Calls Tryz.prog 206 #[.int .i64 a, .int .i64 b] w fun e w' => e = .returned (.int .i64 (sgn a b)) ∧ w = w' := by
  unfold sgn
  by_cases h1 : a < b
  · go_enter Tryz.func206, Tryz.ntmps206
    go_wp2
    go_ret
    exact ⟨by simp [h1], rfl⟩
  · by_cases h2 : b < a
    · go_enter Tryz.func206, Tryz.ntmps206
      go_wp2
      go_ret
      exact ⟨by simp [h1, h2], rfl⟩
    · go_enter Tryz.func206, Tryz.ntmps206
      go_wp2
      go_ret
      exact ⟨by simp [h1, h2], rfl⟩

theorem tmod_emod (a n : Int) (hn : 1 ≤ n) : a.tmod n = if a % n = 0 ∨ 0 ≤ a then a % n else a % n - n := by
  rw [Int.tmod_eq_emod]
  by_cases h0 : 0 ≤ a
  · simp [h0]
  · by_cases h1 : a % n = 0
    · have : n ∣ a := Int.dvd_of_emod_eq_zero h1
      simp [h1, this]
    · have h2 : ¬ n ∣ a := fun h => h1 (Int.emod_eq_zero_of_dvd h)
      simp [h0, h1, h2]; omega

theorem rem_lt (a n : Int) (hn : 1 ≤ n) : (a.tmod n < 0 → a.tmod n + n = a % n) ∧ (¬ a.tmod n < 0 → a.tmod n = a % n) ∧ -n < a.tmod n ∧ a.tmod n < n := by
  have h1 := tmod_emod a n hn
  have h2 := Int.emod_nonneg a (show n ≠ 0 by omega)
  have h3 := Int.emod_lt_of_pos a (show 0 < n by omega)
  rw [h1]
  split
  · rename_i h; exact ⟨fun h => by omega, fun _ => rfl, by omega, by omega⟩
  · rename_i h
    simp only [not_or] at h
    exact ⟨fun h => by omega, fun h => by omega, by omega, by omega⟩

set_option maxHeartbeats 400000 in
theorem remainder_any (a n : Int) (w : World) (h1 : 1 ≤ n) (h2 : n ≤ 1000) (ha : -9223372036854775808 ≤ a) (hb : a ≤ 9223372036854775807) :
    Calls Tryz.prog 208 #[.int .i64 a, .int .i64 n] w fun e w' => e = .returned (.int .i64 (a % n)) ∧ w = w' := by
  obtain ⟨r1, r2, r3, r4⟩ := rem_lt a n h1
  go_enter Tryz.func208, Tryz.ntmps208
  go_wp2
  · go_ret
    exact ⟨by rw [← r1 (by assumption)]; simp_all, rfl⟩
  · go_ret
    exact ⟨by rw [← r2 (by assumption)]; simp_all, rfl⟩

theorem same_left {P : Program} {f : FuncId} {args : Array Value} {w : World} {n : Nat} {v : Value}
    (h : Calls P f args (w.drewN n) fun e w' => e = .returned v ∧ w.drewN n = w') : Calls P f args (w.drewN n) fun e w'' => e = .returned v ∧ ∃ m, w'' = w.drewN m :=
  h.mono fun _ _ ⟨he, hm⟩ => ⟨he, n, hm.symm⟩

theorem bDrewN {B : Nat} {a w : World} (h : Below B a w) (n : Nat) : Below B a (w.drewN n) := ⟨h.os, h.tape, h.output, h.size, h.block⟩
theorem bNew (w : World) (o : Obj) : Below w.heap.size w (w.alloc o) := (Below.refl _ _).alloc (Nat.le_refl _) _

set_option maxHeartbeats 1000000 in
theorem numcmp_any (k n a b : Int) (w : World) (hk : 0 ≤ k) (hk3 : k ≤ 3) (hn : k = 3 → 1 ≤ n ∧ n ≤ 1000) (ha : -9223372036854775808 ≤ a) (ha' : a ≤ 9223372036854775807) (hb : -9223372036854775808 ≤ b) (hb' : b ≤ 9223372036854775807) :
    Calls Tryz.prog 200 #[.agg #[.int .u8 k, .int .i64 n], .int .i64 a, .int .i64 b] w fun e w' => e = .returned (.int .i64 (cmpI k n a b)) ∧ Below w.heap.size w w' := by
  unfold cmpI
  by_cases h2 : k = 2
  · subst h2
    clear hn
    go_enter Tryz.func200, Tryz.ntmps200
    go_wp2_with (go_at_call 206; refine (compared_any _ _ _).mono ?_; rintro e w' ⟨rfl, rfl⟩)
    go_ret
    exact ⟨rfl, bNew _ _⟩
  · by_cases h3 : k = 3
    · subst h3
      obtain ⟨hn1, hn2⟩ := hn rfl
      clear hn
      have hne : (n != 0) = true := by rw [bne_iff_ne]; omega
      by_cases he : a % n = b % n
      · have he' : (a % n != b % n) = false := by simp [he]
        have HE := Lib.hid he
        clear he
        go_enter Tryz.func200, Tryz.ntmps200
        go_wp2_with (go_at_call 206; refine (compared_any _ _ _).mono ?_; rintro e w' ⟨rfl, rfl⟩)
        go_quiet ((first | (go_at_call 208; exact same_left (remainder_any _ _ _ hn1 hn2 ha ha')) | (go_at_call 208; exact same_left (remainder_any _ _ _ hn1 hn2 hb hb'))))
        go_wp2_with (go_at_call 206; refine (compared_any _ _ _).mono ?_; rintro e w' ⟨rfl, rfl⟩)
        go_ret
        exact ⟨by simp [HE.out], bDrewN (bNew _ _) _⟩
      · have he' : (a % n != b % n) = true := by simp [he]
        have HE := Lib.hid he
        clear he
        go_enter Tryz.func200, Tryz.ntmps200
        go_wp2_with (go_at_call 206; refine (compared_any _ _ _).mono ?_; rintro e w' ⟨rfl, rfl⟩)
        go_quiet ((first | (go_at_call 208; exact same_left (remainder_any _ _ _ hn1 hn2 ha ha')) | (go_at_call 208; exact same_left (remainder_any _ _ _ hn1 hn2 hb hb'))))
        go_wp2_with (go_at_call 206; refine (compared_any _ _ _).mono ?_; rintro e w' ⟨rfl, rfl⟩)
        go_ret
        exact ⟨by simp [HE.out], bDrewN (bNew _ _) _⟩
    · clear hn
      have h2' : (k == 2) = false := by simp [h2]
      have h3' : (k == 3) = false := by simp [h3]
      have H2 := Lib.hid h2
      have H3 := Lib.hid h3
      clear h2 h3
      go_enter Tryz.func200, Tryz.ntmps200
      go_wp2_with (go_at_call 206; refine (compared_any _ _ _).mono ?_; rintro e w' ⟨rfl, rfl⟩)
      go_ret
      exact ⟨by simp [H2.out, H3.out], bNew _ _⟩

set_option maxHeartbeats 1000000 in
theorem textcmp_any (k n : Int) (a b : ByteArray) (w : World) (hk : 0 ≤ k) (hk3 : k ≤ 3) :
    Calls Tryz.prog 199 #[.agg #[.int .u8 k, .int .i64 n], .string a, .string b] w fun e w' => e = .returned (.int .i64 (cmpS k a b)) ∧ Below w.heap.size w w' := by
  unfold cmpS
  by_cases h2 : k = 2
  · subst h2
    go_enter Tryz.func199, Tryz.ntmps199
    go_wp2_with (go_at_call 207; refine (Tryz.strings_Compare _ _ _).mono ?_; rintro e w' ⟨rfl, hw⟩; subst hw)
    go_ret
    exact ⟨rfl, bNew _ _⟩
  · by_cases h3 : k = 3
    · subst h3
      by_cases he : a.size = b.size
      · have he' : ((a.size : Int) != (b.size : Int)) = false := by simp [he]
        have HE := Lib.hid he
        clear he
        go_enter Tryz.func199, Tryz.ntmps199
        go_wp2_with (go_at_call 207; refine (Tryz.strings_Compare _ _ _).mono ?_; rintro e w' ⟨rfl, hw⟩; subst hw)
        go_ret
        exact ⟨by simp [HE.out, cb], bNew _ _⟩
      · have he' : ((a.size : Int) != (b.size : Int)) = true := by rw [bne_iff_ne]; omega
        have HE := Lib.hid he
        clear he
        go_enter Tryz.func199, Tryz.ntmps199
        go_wp2_with (go_at_call 206; refine (compared_any _ _ _).mono ?_; rintro e w' ⟨rfl, rfl⟩)
        go_ret
        exact ⟨by simp [HE.out], bNew _ _⟩
    · have h2' : (k == 2) = false := by simp [h2]
      have h3' : (k == 3) = false := by simp [h3]
      have H2 := Lib.hid h2
      have H3 := Lib.hid h3
      clear h2 h3
      go_enter Tryz.func199, Tryz.ntmps199
      go_wp2_with (go_at_call 207; refine (Tryz.strings_Compare _ _ _).mono ?_; rintro e w' ⟨rfl, hw⟩; subst hw)
      go_ret
      exact ⟨by simp [H2.out, H3.out, cb], bNew _ _⟩

theorem asI_3 (a : Int) (w : World) : (Instr.typeAssert (.iface 2 (.int .i64 a)) 20 3 true).run Tryz.prog w = .ok (.tuple #[.int .i64 0, .bool false]) w := by kernel_rfl
theorem asI_310 (a : Int) (w : World) : (Instr.typeAssert (.iface 2 (.int .i64 a)) 20 310 true).run Tryz.prog w = .ok (.tuple #[.int .i8 0, .bool false]) w := by kernel_rfl
theorem asI_311 (a : Int) (w : World) : (Instr.typeAssert (.iface 2 (.int .i64 a)) 20 311 true).run Tryz.prog w = .ok (.tuple #[.int .i16 0, .bool false]) w := by kernel_rfl
theorem asI_21 (a : Int) (w : World) : (Instr.typeAssert (.iface 2 (.int .i64 a)) 20 21 true).run Tryz.prog w = .ok (.tuple #[.int .i32 0, .bool false]) w := by kernel_rfl
theorem asI_312 (a : Int) (w : World) : (Instr.typeAssert (.iface 2 (.int .i64 a)) 20 312 true).run Tryz.prog w = .ok (.tuple #[.int .u64 0, .bool false]) w := by kernel_rfl
theorem asI_5 (a : Int) (w : World) : (Instr.typeAssert (.iface 2 (.int .i64 a)) 20 5 true).run Tryz.prog w = .ok (.tuple #[.int .u8 0, .bool false]) w := by kernel_rfl
theorem asI_313 (a : Int) (w : World) : (Instr.typeAssert (.iface 2 (.int .i64 a)) 20 313 true).run Tryz.prog w = .ok (.tuple #[.int .u16 0, .bool false]) w := by kernel_rfl
theorem asI_314 (a : Int) (w : World) : (Instr.typeAssert (.iface 2 (.int .i64 a)) 20 314 true).run Tryz.prog w = .ok (.tuple #[.int .u32 0, .bool false]) w := by kernel_rfl
theorem asI_180 (a : Int) (w : World) : (Instr.typeAssert (.iface 2 (.int .i64 a)) 20 180 true).run Tryz.prog w = .ok (.tuple #[.int .u64 0, .bool false]) w := by kernel_rfl
theorem asI_12 (a : Int) (w : World) : (Instr.typeAssert (.iface 2 (.int .i64 a)) 20 12 true).run Tryz.prog w = .ok (.tuple #[.int .u64 0, .bool false]) w := by kernel_rfl
theorem asI_9 (a : Int) (w : World) : (Instr.typeAssert (.iface 2 (.int .i64 a)) 20 9 true).run Tryz.prog w = .ok (.tuple #[.string ⟨#[]⟩, .bool false]) w := by kernel_rfl
theorem asI_2 (a : Int) (w : World) : (Instr.typeAssert (.iface 2 (.int .i64 a)) 20 2 true).run Tryz.prog w = .ok (.tuple #[.int .i64 a, .bool true]) w := by kernel_rfl
theorem asI_2' (a : Int) (w : World) : (Instr.typeAssert (.iface 2 (.int .i64 a)) 20 2 false).run Tryz.prog w = .ok (.int .i64 a) w := by kernel_rfl
attribute [local go_sem] asI_3 asI_310 asI_311 asI_21 asI_2 asI_312 asI_5 asI_313 asI_314 asI_180 asI_12 asI_9 asI_2'
theorem asS_3 (a : ByteArray) (w : World) : (Instr.typeAssert (.iface 9 (.string a)) 20 3 true).run Tryz.prog w = .ok (.tuple #[.int .i64 0, .bool false]) w := by kernel_rfl
theorem asS_310 (a : ByteArray) (w : World) : (Instr.typeAssert (.iface 9 (.string a)) 20 310 true).run Tryz.prog w = .ok (.tuple #[.int .i8 0, .bool false]) w := by kernel_rfl
theorem asS_311 (a : ByteArray) (w : World) : (Instr.typeAssert (.iface 9 (.string a)) 20 311 true).run Tryz.prog w = .ok (.tuple #[.int .i16 0, .bool false]) w := by kernel_rfl
theorem asS_21 (a : ByteArray) (w : World) : (Instr.typeAssert (.iface 9 (.string a)) 20 21 true).run Tryz.prog w = .ok (.tuple #[.int .i32 0, .bool false]) w := by kernel_rfl
theorem asS_2 (a : ByteArray) (w : World) : (Instr.typeAssert (.iface 9 (.string a)) 20 2 true).run Tryz.prog w = .ok (.tuple #[.int .i64 0, .bool false]) w := by kernel_rfl
theorem asS_312 (a : ByteArray) (w : World) : (Instr.typeAssert (.iface 9 (.string a)) 20 312 true).run Tryz.prog w = .ok (.tuple #[.int .u64 0, .bool false]) w := by kernel_rfl
theorem asS_5 (a : ByteArray) (w : World) : (Instr.typeAssert (.iface 9 (.string a)) 20 5 true).run Tryz.prog w = .ok (.tuple #[.int .u8 0, .bool false]) w := by kernel_rfl
theorem asS_313 (a : ByteArray) (w : World) : (Instr.typeAssert (.iface 9 (.string a)) 20 313 true).run Tryz.prog w = .ok (.tuple #[.int .u16 0, .bool false]) w := by kernel_rfl
theorem asS_314 (a : ByteArray) (w : World) : (Instr.typeAssert (.iface 9 (.string a)) 20 314 true).run Tryz.prog w = .ok (.tuple #[.int .u32 0, .bool false]) w := by kernel_rfl
theorem asS_180 (a : ByteArray) (w : World) : (Instr.typeAssert (.iface 9 (.string a)) 20 180 true).run Tryz.prog w = .ok (.tuple #[.int .u64 0, .bool false]) w := by kernel_rfl
theorem asS_12 (a : ByteArray) (w : World) : (Instr.typeAssert (.iface 9 (.string a)) 20 12 true).run Tryz.prog w = .ok (.tuple #[.int .u64 0, .bool false]) w := by kernel_rfl
theorem asS_9 (a : ByteArray) (w : World) : (Instr.typeAssert (.iface 9 (.string a)) 20 9 true).run Tryz.prog w = .ok (.tuple #[.string a, .bool true]) w := by kernel_rfl
theorem asS_9' (a : ByteArray) (w : World) : (Instr.typeAssert (.iface 9 (.string a)) 20 9 false).run Tryz.prog w = .ok (.string a) w := by kernel_rfl
attribute [local go_sem] asS_3 asS_310 asS_311 asS_21 asS_2 asS_312 asS_5 asS_313 asS_314 asS_180 asS_12 asS_9 asS_9'


set_option maxHeartbeats 400000 in
theorem defcmp_int_any (a b : Int) (w : World) :
    Calls Tryz.prog 260 #[.int .i64 a, .int .i64 b] w fun e w' => e = .returned (.int .i64 (sgn a b)) ∧ w = w' := by
  unfold sgn
  by_cases h1 : a < b
  · go_enter Tryz.func260, Tryz.ntmps260
    go_wp2
    go_ret
    exact ⟨by simp [h1], rfl⟩
  · by_cases h2 : b < a
    · go_enter Tryz.func260, Tryz.ntmps260
      go_wp2
      go_ret
      exact ⟨by simp [h1, h2], rfl⟩
    · go_enter Tryz.func260, Tryz.ntmps260
      go_wp2
      go_ret
      exact ⟨by simp [h1, h2], rfl⟩

theorem less_cb (a b : ByteArray) : Op.bytesLess a.toList b.toList = decide (cb a b = -1) := by
  rw [Lib.toList_data, Lib.toList_data]
  unfold cb
  generalize a.data.toList = x
  generalize b.data.toList = y
  induction x generalizing y with
  | nil => cases y <;> simp [Op.bytesLess, Lib.compareBytes]
  | cons u x ih =>
    cases y with
    | nil => simp [Op.bytesLess, Lib.compareBytes]
    | cons v y =>
      unfold Op.bytesLess Lib.compareBytes
      by_cases h1 : u < v
      · simp [h1]
      · by_cases h2 : v < u
        · have h3 : u ≠ v := by rintro rfl; exact UInt8.lt_irrefl _ h2
          simp [h1, h2, h3]
        · have h3 : u = v := UInt8.le_antisymm (UInt8.not_lt.1 h2) (UInt8.not_lt.1 h1)
          simp [h3, ih, UInt8.lt_irrefl]

theorem eq_cb (a b : ByteArray) : (a.toList == b.toList) = decide (cb a b = 0) := by
  rw [Lib.toList_data, Lib.toList_data]
  by_cases h : cb a b = 0
  · rw [cb_eq h]; simp [ord_cb.refl]
  · have : a.data.toList ≠ b.data.toList := fun e => h (by unfold cb; rw [e]; exact cmpB_refl _)
    rw [beq_eq_false_iff_ne.2 this]; simp [h]

set_option maxHeartbeats 400000 in
theorem defcmp_text_any (a b : ByteArray) (w : World) :
    Calls Tryz.prog 267 #[.string a, .string b] w fun e w' => e = .returned (.int .i64 (cb a b)) ∧ w = w' := by
  have hr := ord_cb.range a b
  by_cases h1 : cb a b = -1
  · have e1 : Op.bytesLess a.toList b.toList = true := by rw [less_cb]; simp [h1]
    have H := Lib.hid h1
    clear h1 hr
    go_enter Tryz.func267, Tryz.ntmps267
    go_wp2
    go_ret
    exact ⟨by simp [H.out], rfl⟩
  · have e1 : Op.bytesLess a.toList b.toList = false := by rw [less_cb]; simp [h1]
    by_cases h2 : cb a b = 0
    · have e2 : (a.toList == b.toList) = true := by rw [eq_cb]; simp [h2]
      have H := Lib.hid h2
      clear h1 h2 hr
      go_enter Tryz.func267, Tryz.ntmps267
      go_wp2
      go_ret
      exact ⟨by simp [H.out], rfl⟩
    · have e2 : (a.toList == b.toList) = false := by rw [eq_cb]; simp [h2]
      have H : Hid (cb a b = 1) := by rcases hr with h | h | h <;> simp_all [Hid]
      clear h1 h2 hr
      go_enter Tryz.func267, Tryz.ntmps267
      go_wp2
      go_ret
      exact ⟨by simp [H.out], rfl⟩

set_option maxRecDepth 100000 in
set_option maxHeartbeats 1000000 in
theorem defcomparer_int_any (v : Value) (a b : Int) (w : World) :
    Calls Tryz.prog 268 #[v, .int .i64 a, .int .i64 b] w fun e w' => e = .returned (.int .i64 (sgn a b)) ∧ w = w' := by
  go_enter Tryz.func268, Tryz.ntmps268
  go_wp2_with (go_at_call 260; refine (defcmp_int_any _ _ _).mono ?_; rintro e w' ⟨rfl, rfl⟩)
  go_ret
  exact ⟨rfl, rfl⟩

set_option maxRecDepth 100000 in
set_option maxHeartbeats 1000000 in
theorem defcomparer_text_any (v : Value) (a b : ByteArray) (w : World) :
    Calls Tryz.prog 255 #[v, .string a, .string b] w fun e w' => e = .returned (.int .i64 (cb a b)) ∧ w = w' := by
  go_enter Tryz.func255, Tryz.ntmps255
  go_wp2_with (go_at_call 267; refine (defcmp_text_any _ _ _).mono ?_; rintro e w' ⟨rfl, rfl⟩)
  go_ret
  exact ⟨rfl, rfl⟩

set_option maxRecDepth 100000 in
set_option maxHeartbeats 1000000 in
theorem newcomparer_int_any (a : Int) (w : World) :
    Calls Tryz.prog 160 #[.int .i64 a] w fun e w' => e = .returned (.iface 331 (.pointer (some ⟨w.heap.size, 0, none⟩))) ∧ Below w.heap.size w w' ∧ w'.heap.size = w.heap.size + 1 := by
  go_enter Tryz.func160, Tryz.ntmps160
  go_wp2
  go_ret
  exact ⟨rfl, bNew _ _, by simp⟩

set_option maxRecDepth 100000 in
set_option maxHeartbeats 1000000 in
theorem newcomparer_text_any (a : ByteArray) (w : World) :
    Calls Tryz.prog 149 #[.string a] w fun e w' => e = .returned (.iface 315 (.pointer (some ⟨w.heap.size, 0, none⟩))) ∧ Below w.heap.size w w' ∧ w'.heap.size = w.heap.size + 1 := by
  go_enter Tryz.func149, Tryz.ntmps149
  go_wp2
  go_ret
  exact ⟨rfl, bNew _ _, by simp⟩
end Go.Proofs.YtfejflhgaphilaaGreatDoor

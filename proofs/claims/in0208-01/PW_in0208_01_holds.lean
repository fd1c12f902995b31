import PyProof.Rows.All
import Wide.All
import OpenK.AllK
import Wide.FinOn
import PySem.Challenge.RW_in0208_01

-- Hd
section
open PySem PySem.W PyProof.Rows
set_option Elab.async false
set_option maxRecDepth 100000
set_option maxHeartbeats 8000000
local macro_rules | `(tactic| k_head) => `(tactic| x_head)
/- Eight dummies, with no content; no proof leans on one. Each takes the name that the head's tool would give to the quick twin of one of this text's own
constants (the program, its view, the written heap, ..). Where the name is taken the tool leaves the constant as it stands, and the kernel checks the head
on it. Without them the equations between the constants and their twins alone make the compiled file larger than 32 MiB. They stand outside of the
namespace Mine because the tool looks for just these names. -/
def PySem.W.Fast.tw8075568018651887793 : Unit := ()
def PySem.W.Fast.tw7974539635466776896 : Unit := ()
def PySem.W.Fast.tw14979626087600564940 : Unit := ()
def PySem.W.Fast.tw9097165718820901276 : Unit := ()
def PySem.W.Fast.tw9506841374142046533 : Unit := ()
def PySem.W.Fast.tw2594094664786655113 : Unit := ()
def PySem.W.Fast.tw1486927313064005944 : Unit := ()
def PySem.W.Fast.tw15302161944941228822 : Unit := ()
namespace Mine
open_top hd for PySem.Challenge.rw_in0208_01
end Mine
end

-- P1
section
open PySem PySem.W PyProof.Rows
set_option Elab.async false
set_option linter.unusedVariables false
namespace Mine
/-- bits of naturals -/
theorem band_nat (x y : Nat) : Builtin.bitAnd (x : Int) (y : Int) = ((x &&& y : Nat) : Int) := by
  unfold Builtin.bitAnd
  have h1 : decide ((0 : Int) ≤ (x : Int)) = true := by simp
  have h2 : decide ((0 : Int) ≤ (y : Int)) = true := by simp
  rw [h1, h2]
  simp
theorem bor_nat (x y : Nat) : Builtin.bitOr (x : Int) (y : Int) = ((x ||| y : Nat) : Int) := by
  unfold Builtin.bitOr Builtin.bitAnd
  have h1 : decide ((0 : Int) ≤ Builtin.bitNot (x : Int)) = false := by unfold Builtin.bitNot; simp; omega
  have h2 : decide ((0 : Int) ≤ Builtin.bitNot (y : Int)) = false := by unfold Builtin.bitNot; simp; omega
  rw [h1, h2]
  have e1 : (Builtin.bitNot (Builtin.bitNot (x : Int))).toNat = x := by unfold Builtin.bitNot; omega
  have e2 : (Builtin.bitNot (Builtin.bitNot (y : Int))).toNat = y := by unfold Builtin.bitNot; omega
  show Builtin.bitNot (Builtin.bitNot _) = _
  rw [e1, e2]
  unfold Builtin.bitNot
  omega
theorem xor_and_or : ∀ n x y : Nat, x < 2 ^ n → (x ^^^ y) + (x &&& y) = (x ||| y) := by
  intro n
  induction n with
  | zero => intro x y h; obtain rfl : x = 0 := by omega
            simp
  | succ n ih =>
    intro x y h
    have h2 := ih (x / 2) (y / 2) (by omega)
    have ex := Nat.div_add_mod (x ^^^ y) 2
    have ea := Nat.div_add_mod (x &&& y) 2
    have eo := Nat.div_add_mod (x ||| y) 2
    have dx : (x ^^^ y) / 2 = (x / 2) ^^^ (y / 2) := by have := @Nat.xor_div_two_pow x y 1; simpa using this
    have da : (x &&& y) / 2 = (x / 2) &&& (y / 2) := by have := @Nat.and_div_two_pow x y 1; simpa using this
    have dor : (x ||| y) / 2 = (x / 2) ||| (y / 2) := by have := @Nat.or_div_two_pow x y 1; simpa using this
    have mx : (x ^^^ y) % 2 = (x % 2) ^^^ (y % 2) := by have := @Nat.xor_mod_two_pow x y 1; simpa using this
    have ma : (x &&& y) % 2 = (x % 2) &&& (y % 2) := by have := @Nat.and_mod_two_pow x y 1; simpa using this
    have mo : (x ||| y) % 2 = (x % 2) ||| (y % 2) := by have := @Nat.or_mod_two_pow x y 1; simpa using this
    have key : ((x % 2) ^^^ (y % 2)) + ((x % 2) &&& (y % 2)) = ((x % 2) ||| (y % 2)) := by
      rcases Nat.mod_two_eq_zero_or_one x with a | a <;> rcases Nat.mod_two_eq_zero_or_one y with b | b <;> rw [a, b] <;> decide
    rw [← ex, ← ea, ← eo, dx, da, dor, mx, ma, mo]
    omega
theorem bxor_nat (x y : Nat) : Builtin.bitXor (x : Int) (y : Int) = ((x ^^^ y : Nat) : Int) := by
  unfold Builtin.bitXor
  rw [bor_nat, band_nat]
  have := xor_and_or x x y Nat.lt_two_pow_self
  omega
/-- a deed: place, kind, mask -/
abbrev Deed := Nat × Nat × Nat
def NAMES : List (List Str) := [[], ["a"], ["a", "a"], ["a", "ab"], ["ab"], ["ab", "b"]]
/-- which places lie under which -/
def under (i j : Nat) : Bool := ((NAMES.getD i []).isPrefixOf (NAMES.getD j []))
/-- the place above -/
def par : Nat → Nat
  | 2 => 1
  | 3 => 1
  | 5 => 4
  | _ => 0
def rightv (m above kind mask : Nat) : Nat := match kind with
  | 0 => m &&& mask
  | 1 => m ||| mask
  | 2 => m ^^^ mask
  | _ => above
def newm (m r : Nat) : Nat := (m &&& 61440) ||| (r &&& 4095)
/-- a deed's turn at the first i places -/
def upto (i : Nat) (modes : List Nat) (above : Nat) (d : Deed) : List Nat := modes.mapIdx fun k m => if decide (k < i) && under d.1 k then newm m (rightv m above d.2.1 d.2.2) else m
def stepM (modes : List Nat) (d : Deed) : List Nat := upto 6 modes (modes.getD (par d.1) 0) d
def doneM (modes : List Nat) (ds : List Deed) : List Nat := ds.foldl stepM modes
theorem upto_zero (modes : List Nat) (above : Nat) (d : Deed) : upto 0 modes above d = modes := by
  unfold upto
  apply List.ext_getElem? ; intro i
  rw [List.getElem?_mapIdx]
  simp
theorem upto_len (i : Nat) (modes : List Nat) (above : Nat) (d : Deed) : (upto i modes above d).length = modes.length := by simp [upto]
theorem upto_get (i k : Nat) (modes : List Nat) (above : Nat) (d : Deed) : (upto i modes above d)[k]? = (modes[k]?).map fun m => if decide (k < i) && under d.1 k then newm m (rightv m above d.2.1 d.2.2) else m := by
  unfold upto; rw [List.getElem?_mapIdx]
theorem upto_at {i : Nat} {modes : List Nat} {above : Nat} {d : Deed} {m : Nat} (h : modes[i]? = some m) : (upto i modes above d)[i]? = some m := by
  rw [upto_get, h]; simp
theorem upto_skip {i : Nat} {modes : List Nat} {above : Nat} {d : Deed} (h : under d.1 i = false) : upto (i + 1) modes above d = upto i modes above d := by
  apply List.ext_getElem?; intro k
  rw [upto_get, upto_get]
  by_cases q : k = i
  · subst q; rw [h]; simp
  · have : decide (k < i + 1) = decide (k < i) := by simp; omega
    rw [this]
theorem upto_take {i : Nat} {modes : List Nat} {above : Nat} {d : Deed} {m : Nat} (hm : modes[i]? = some m) (h : under d.1 i = true) : upto (i + 1) modes above d = (upto i modes above d).set i (newm m (rightv m above d.2.1 d.2.2)) := by
  apply List.ext_getElem?; intro k
  have hl := (List.getElem?_eq_some_iff.mp hm).1
  rw [upto_get, List.getElem?_set, upto_get]
  by_cases q : i = k
  · subst q; rw [if_pos rfl, hm, h, upto_len, if_pos hl]; simp
  · rw [if_neg q]
    have : decide (k < i + 1) = decide (k < i) := by simp; omega
    rw [this]
theorem stepM_len (modes : List Nat) (d : Deed) : (stepM modes d).length = modes.length := upto_len _ _ _ _
theorem doneM_len (ds : List Deed) : ∀ modes : List Nat, (doneM modes ds).length = modes.length := by
  induction ds with
  | nil => intro m; rfl
  | cons d ds ih => intro m; show (doneM (stepM m d) ds).length = _; rw [ih, stepM_len]
end Mine
end

-- P2
section
open PySem PySem.W PyProof.Rows
set_option Elab.async false
set_option linter.unusedVariables false
namespace Mine
def rightR (firsts : List Nat) (bit : Nat) : List Deed → Nat → Nat → Nat
  | [], place, turned => (firsts.getD place 0 / 2 ^ bit + turned) % 2
  | d :: ds, place, turned =>
    if under d.1 place = true then
      if d.2.1 = 3 then rightR firsts bit ds (par d.1) turned
      else if d.2.1 = 2 then rightR firsts bit ds place ((turned + d.2.2 / 2 ^ bit) % 2)
      else if d.2.2 / 2 ^ bit % 2 = d.2.1 then (d.2.1 + turned) % 2
      else rightR firsts bit ds place turned
    else rightR firsts bit ds place turned
def deedOk (d : Deed) : Prop := d.1 < 6 ∧ d.2.1 < 4 ∧ d.2.2 < 4096
def bt (x i : Nat) : Nat := x / 2 ^ i % 2
theorem bt_test (x i : Nat) : bt x i = (x.testBit i).toNat := (Nat.toNat_testBit x i).symm
theorem bt_newm {m r i : Nat} (h : i < 12) : bt (newm m r) i = bt r i := by
  have h1 : ∀ i, i < 12 → Nat.testBit 61440 i = false := by decide
  have h2 : ∀ i, i < 12 → Nat.testBit 4095 i = true := by decide
  rw [bt_test, bt_test]
  unfold newm
  rw [Nat.testBit_or, Nat.testBit_and, Nat.testBit_and, h1 i h, h2 i h]
  simp
theorem newm_high (m r : Nat) : newm m r &&& 61440 = m &&& 61440 := by
  unfold newm
  apply Nat.eq_of_testBit_eq
  intro i
  simp only [Nat.testBit_and, Nat.testBit_or]
  have h : (Nat.testBit 4095 i && Nat.testBit 61440 i) = false := by
    rw [← Nat.testBit_and]; have : (4095 &&& 61440 : Nat) = 0 := by decide
    rw [this]; simp
  cases a : Nat.testBit m i <;> cases b : Nat.testBit r i <;> cases c : Nat.testBit 4095 i <;> cases e : Nat.testBit 61440 i <;> simp_all
theorem bt_lt (x i : Nat) : bt x i < 2 := Nat.mod_lt _ (by decide)
theorem bt_and (x y i : Nat) : bt (x &&& y) i = bt x i * bt y i := by
  rw [bt_test, bt_test, bt_test, Nat.testBit_and]
  cases x.testBit i <;> cases y.testBit i <;> rfl
theorem bt_or (x y i : Nat) : bt (x ||| y) i = if bt y i = 1 then 1 else bt x i := by
  rw [bt_test, bt_test, bt_test, Nat.testBit_or]
  cases x.testBit i <;> cases y.testBit i <;> rfl
theorem bt_xor (x y i : Nat) : bt (x ^^^ y) i = (bt x i + bt y i) % 2 := by
  rw [bt_test, bt_test, bt_test, Nat.testBit_xor]
  cases x.testBit i <;> cases y.testBit i <;> rfl
theorem getD_of {xs : List Nat} {p : Nat} (h : p < xs.length) : xs[p]? = some (xs.getD p 0) := by
  rw [List.getD_eq_getElem?_getD, List.getElem?_eq_getElem h]; rfl
theorem step_get {modes : List Nat} {d : Deed} {p : Nat} (h : p < modes.length) (h6 : p < 6) : (stepM modes d).getD p 0 = if under d.1 p = true then newm (modes.getD p 0) (rightv (modes.getD p 0) (modes.getD (par d.1) 0) d.2.1 d.2.2) else modes.getD p 0 := by
  have e := upto_get 6 p modes (modes.getD (par d.1) 0) d
  rw [getD_of h] at e
  rw [List.getD_eq_getElem?_getD, show (stepM modes d)[p]? = _ from e]
  have : decide (p < 6) = true := by simpa using h6
  rw [this, Bool.true_and]
  rfl
theorem par_lt (k : Nat) : par k < 6 := by unfold par; split <;> decide
theorem doneM_rev (firsts : List Nat) (d : Deed) (ds : List Deed) : doneM firsts (d :: ds).reverse = stepM (doneM firsts ds.reverse) d := by
  unfold doneM; rw [List.reverse_cons, List.foldl_append]; rfl
theorem right_done {firsts : List Nat} {bit : Nat} (hb : bit < 12) (hl : firsts.length = 6) : ∀ (ds : List Deed), (∀ d ∈ ds, deedOk d) → ∀ p t, p < 6 → rightR firsts bit ds p t = (bt ((doneM firsts ds.reverse).getD p 0) bit + t) % 2 := by
  intro ds
  induction ds with
  | nil => intro _ p t hp; show (firsts.getD p 0 / 2 ^ bit + t) % 2 = _; show _ = (firsts.getD p 0 / 2 ^ bit % 2 + t) % 2; omega
  | cons d ds ih =>
    intro ok p t hp
    have ih := ih fun d h => ok d (List.mem_cons_of_mem _ h)
    obtain ⟨h1, h2, h3⟩ := ok d List.mem_cons_self
    have hlen : (doneM firsts ds.reverse).length = 6 := by rw [doneM_len, hl]
    have hg := step_get (modes := doneM firsts ds.reverse) (d := d) (p := p) (by omega) hp
    rw [doneM_rev, hg]
    unfold rightR
    by_cases hu : under d.1 p = true
    · rw [if_pos hu, if_pos hu, bt_newm hb]
      generalize hm : (doneM firsts ds.reverse).getD p 0 = m at *
      have hbm : d.2.2 / 2 ^ bit % 2 = bt d.2.2 bit := rfl
      have hlm := bt_lt m bit
      have hlk := bt_lt d.2.2 bit
      have : d.2.1 = 0 ∨ d.2.1 = 1 ∨ d.2.1 = 2 ∨ d.2.1 = 3 := by omega
      rcases this with e | e | e | e
      · rw [if_neg (by omega), if_neg (by omega), e]
        show _ = (bt (m &&& d.2.2) bit + t) % 2
        rw [bt_and, hbm]
        split
        · rename_i q; rw [q, Nat.mul_zero]
        · rename_i q
          have : bt d.2.2 bit = 1 := by omega
          rw [this, ih p t hp, hm, Nat.mul_one]
      · rw [if_neg (by omega), if_neg (by omega), e]
        show _ = (bt (m ||| d.2.2) bit + t) % 2
        rw [bt_or, hbm]
        split
        · rename_i q; rfl
        · rename_i q; rw [ih p t hp, hm]
      · rw [if_neg (by omega), if_pos e, e]
        show _ = (bt (m ^^^ d.2.2) bit + t) % 2
        rw [bt_xor, ih p _ hp, hm]
        have : bt d.2.2 bit = d.2.2 / 2 ^ bit % 2 := rfl
        omega
      · rw [if_pos e, e]
        show _ = (bt ((doneM firsts ds.reverse).getD (par d.1) 0) bit + t) % 2
        rw [ih _ t (par_lt _)]
    · rw [if_neg hu, if_neg hu, ih p t hp]
theorem high_done {firsts : List Nat} (hl : firsts.length = 6) : ∀ (ds : List Deed) p, p < 6 → (doneM firsts ds.reverse).getD p 0 &&& 61440 = firsts.getD p 0 &&& 61440 := by
  intro ds
  induction ds with
  | nil => intro p hp; rfl
  | cons d ds ih =>
    intro p hp
    rw [doneM_rev, step_get (by rw [doneM_len, hl]; exact hp) hp]
    by_cases hu : under d.1 p = true
    · rw [if_pos hu, newm_high, ih p hp]
    · rw [if_neg hu, ih p hp]
theorem and_high (m : Nat) : m &&& 61440 = 4096 * (m / 4096 % 16) := by
  apply Nat.eq_of_testBit_eq
  intro i
  have e : 4096 * (m / 4096 % 16) = (m >>> 12 % 2 ^ 4) <<< 12 := by
    rw [Nat.shiftLeft_eq, Nat.shiftRight_eq_div_pow]; omega
  rw [e, Nat.testBit_and, Nat.testBit_shiftLeft, Nat.testBit_mod_two_pow, Nat.testBit_shiftRight]
  have h : Nat.testBit 61440 i = (decide (i ≥ 12) && decide (i - 12 < 4)) := by
    have : (61440 : Nat) = (2 ^ 4 - 1) <<< 12 := by decide
    rw [this, Nat.testBit_shiftLeft, Nat.testBit_two_pow_sub_one]
  rw [h]
  by_cases q : i ≥ 12
  · rw [show 12 + (i - 12) = i by omega]
    cases Nat.testBit m i <;> cases (decide (i - 12 < 4)) <;> simp [q]
  · simp [q]
theorem and_low (m : Nat) : m &&& 4095 = m % 4096 := by
  have := Nat.and_two_pow_sub_one_eq_mod m 12
  simpa using this
theorem kind_done {firsts : List Nat} (hl : firsts.length = 6) (ds : List Deed) {p : Nat} (hp : p < 6) : (doneM firsts ds).getD p 0 / 4096 % 16 = firsts.getD p 0 / 4096 % 16 := by
  have h := high_done hl ds.reverse p hp
  rw [List.reverse_reverse, and_high, and_high] at h
  omega
theorem right_done' {firsts : List Nat} {bit : Nat} (hb : bit < 12) (hl : firsts.length = 6) (ds : List Deed) (ok : ∀ d ∈ ds, deedOk d) {p : Nat} (hp : p < 6) : rightR firsts bit ds.reverse p 0 = bt ((doneM firsts ds).getD p 0) bit := by
  rw [right_done hb hl ds.reverse (fun d h => ok d (List.mem_reverse.mp h)) p 0 hp, List.reverse_reverse, Nat.add_zero]
  exact Nat.mod_eq_of_lt (bt_lt _ _)
/-- the worth of the rights -/
def worthP (b : Nat → Nat) : Nat := (((List.range 12).filter fun k => b k == 1).map fun k => 2 ^ k).sum
theorem worth_bits (m : Nat) : worthP (bt m) = m % 4096 := by
  have step : ∀ n, (((List.range n).filter fun k => bt m k == 1).map fun k => 2 ^ k).sum = m % 2 ^ n := by
    intro n
    induction n with
    | zero => simp [Nat.mod_one]
    | succ n ih =>
      rw [List.range_succ, List.filter_append, List.map_append, List.sum_append, ih]
      have h := Nat.mod_mul_right_div_self m (2 ^ n) 2
      have e : m % 2 ^ (n + 1) = m % 2 ^ n + 2 ^ n * (bt m n) := by
        rw [Nat.pow_succ, Nat.mod_mul]; rfl
      rw [e]
      have := bt_lt m n
      by_cases q : bt m n = 1
      · simp [q]
      · have : bt m n = 0 := by omega
        simp [this]
  exact step 12
end Mine
end

-- P3
section
open PySem PySem.W PyProof.Rows
set_option Elab.async false
set_option linter.unusedVariables false
namespace Mine
def TABLE : List (List (Nat × Str)) := [[(40960, "l"), (49152, "s"), (32768, "-"), (24576, "b"), (16384, "d"), (8192, "c"), (4096, "p")], [(256, "r")], [(128, "w")], [(2112, "s"), (2048, "S"), (64, "x")],
  [(32, "r")], [(16, "w")], [(1032, "s"), (1024, "S"), (8, "x")], [(4, "r")], [(2, "w")], [(513, "t"), (512, "T"), (1, "x")]]
def tst (m i : Nat) (p : Nat × Str) : Bool := if i = 0 then (m &&& 61440) == p.1 else (m &&& p.1) == p.1
def sgn (m i : Nat) (row : List (Nat × Str)) : Str := match row.find? (tst m i) with
  | some p => p.2
  | none => if i = 0 then "?" else "-"
def signsF (m : Nat) : List Str := TABLE.mapIdx (sgn m)
def two (x : Str) (v : Nat) : Str := ⟨#[x.cps.getD v 0]⟩
def lst (v : Nat) (x y : Str) : Str := if v = 0 then x else y
def KS : Str := "?pc?d?b?-?l?s???"
def signsE (k : Nat) (b : Nat → Nat) : List Str := [two KS k, two "-r" (b 8), two "-w" (b 7), two (lst (b 11) "-x" "Ss") (b 6), two "-r" (b 5), two "-w" (b 4), two (lst (b 10) "-x" "Ss") (b 3), two "-r" (b 2), two "-w" (b 1), two (lst (b 9) "-x" "Tt") (b 0)]
def SR : List (Nat × Str × Str) := [(6, "-x", "Ss"), (3, "-x", "Ss"), (0, "-x", "Tt")]
def part (b : Nat → Nat) (q : Nat × Str × Str) : Str := (two "-r" (b (q.1 + 2)) ++ two "-w" (b (q.1 + 1))) ++ two (lst (b (9 + q.1 / 3)) q.2.1 q.2.2) (b q.1)
def textS (k : Nat) (b : Nat → Nat) (i : Nat) : Str := (SR.take i).foldl (fun t q => t ++ part b q) (two KS k)
theorem text_join (k : Nat) (b : Nat → Nat) : textS k b 3 = Txt.join "" (signsE k b) := rfl
theorem find_hit {α : Type} {f : α → Bool} {xs : List α} {j : Nat} {x : α} (h : xs[j]? = some x) (hf : f x = true) (hno : ∀ (i : Nat) y, i < j → xs[i]? = some y → f y = false) : xs.find? f = some x := by
  obtain ⟨hj, rfl⟩ := List.getElem?_eq_some_iff.mp h
  rw [List.find?_eq_some_iff_getElem]
  refine ⟨hf, j, hj, rfl, fun i hi => ?_⟩
  have := hno i xs[i] hi (List.getElem?_eq_getElem (by omega))
  simpa using this
theorem find_miss {α : Type} {f : α → Bool} {xs : List α} (hno : ∀ (i : Nat) y, i < xs.length → xs[i]? = some y → f y = false) : xs.find? f = none := by
  rw [List.find?_eq_none]
  intro x hx
  obtain ⟨i, hi, rfl⟩ := List.mem_iff_getElem.mp hx
  have := hno i xs[i] hi (List.getElem?_eq_getElem hi)
  simpa using this
theorem and_bit (m k : Nat) : m &&& 2 ^ k = bt m k * 2 ^ k := by
  have := kbt_nat k m
  exact this
theorem and_two (m j k : Nat) : m &&& (2 ^ j ||| 2 ^ k) = (bt m j * 2 ^ j) ||| (bt m k * 2 ^ k) := by
  rw [Nat.and_or_distrib_left, and_bit, and_bit]
theorem bt_cases (m k : Nat) : bt m k = 0 ∨ bt m k = 1 := by have := bt_lt m k; omega
theorem sgn_one (m k : Nat) (c : Str) (i : Nat) (x : Str) (hi : i ≠ 0) (h0 : x.cps.getD 0 0 = 45) (h1 : (⟨#[x.cps.getD 1 0]⟩ : Str) = c) : sgn m i [(2 ^ k, c)] = two x (bt m k) := by
  unfold sgn
  have e := and_bit m k
  have t : tst m i (2 ^ k, c) = ((m &&& 2 ^ k) == 2 ^ k) := by unfold tst; rw [if_neg hi]
  rw [List.find?_cons, t, e]
  have p := Nat.two_pow_pos k
  rcases bt_cases m k with h | h
  · rw [h, Nat.zero_mul]
    have : ((0 : Nat) == 2 ^ k) = false := by simp; omega
    rw [this]
    simp only [List.find?_nil, if_neg hi]
    unfold two; rw [h0]; decide
  · rw [h, Nat.one_mul, beq_self_eq_true]
    simp only
    rw [← h1]; rfl
theorem sgn_three (m j k a : Nat) (cs cS : Str) (y : Str) (i : Nat) (hi : i ≠ 0) (hjk : j ≠ k) (ha : a = (2 ^ j ||| 2 ^ k)) (hd : (2 ^ j ||| 2 ^ k) ≠ 0 ∧ (2 ^ j ||| 2 ^ k) ≠ 2 ^ j ∧ (2 ^ j ||| 2 ^ k) ≠ 2 ^ k) (h1 : two y 0 = cS) (h2 : two y 1 = cs) :
    sgn m i [(a, cs), (2 ^ k, cS), (2 ^ j, "x")] = two (lst (bt m k) "-x" y) (bt m j) := by
  subst ha
  unfold sgn
  have t : ∀ n c, tst m i (n, c) = ((m &&& n) == n) := fun n c => by unfold tst; rw [if_neg hi]
  rw [List.find?_cons, List.find?_cons, List.find?_cons, t, t, t, and_two, and_bit, and_bit]
  have pj := Nat.two_pow_pos j
  have pk := Nat.two_pow_pos k
  obtain ⟨d0, d1, d2⟩ := hd
  rcases bt_cases m j with h | h <;> rcases bt_cases m k with h' | h' <;> rw [h, h'] <;> simp only [Nat.zero_mul, Nat.one_mul, Nat.zero_or, Nat.or_zero, beq_self_eq_true]
  · have e1 : ((0 : Nat) == (2 ^ j ||| 2 ^ k)) = false := by simp only [beq_eq_false_iff_ne]; omega
    have e2 : ((0 : Nat) == 2 ^ k) = false := by simp only [beq_eq_false_iff_ne]; omega
    have e3 : ((0 : Nat) == 2 ^ j) = false := by simp only [beq_eq_false_iff_ne]; omega
    rw [e1, e2, e3]
    simp only [List.find?_nil, if_neg hi]
    show Str.ofString "-" = two (Str.ofString "-x") 0
    decide
  · have e1 : ((2 ^ k : Nat) == (2 ^ j ||| 2 ^ k)) = false := by simp only [beq_eq_false_iff_ne]; omega
    rw [e1]
    exact h1.symm
  · have e1 : ((2 ^ j : Nat) == (2 ^ j ||| 2 ^ k)) = false := by simp only [beq_eq_false_iff_ne]; omega
    have e2 : ((0 : Nat) == 2 ^ k) = false := by simp only [beq_eq_false_iff_ne]; omega
    rw [e1, e2]
    show Str.ofString "x" = two (Str.ofString "-x") 1
    decide
  · exact h2.symm
theorem sgn_kind (m : Nat) (row : List (Nat × Str)) (h : ∀ k, k < 16 → (match row.find? (fun p => 4096 * k == p.1) with | some p => p.2 | none => "?") = two KS k) : sgn m 0 row = two KS (m / 4096 % 16) := by
  rw [← h (m / 4096 % 16) (Nat.mod_lt _ (by decide))]
  unfold sgn
  have : tst m 0 = fun p => 4096 * (m / 4096 % 16) == p.1 := by funext p; unfold tst; rw [if_pos rfl, and_high]
  rw [this]
  rfl
theorem signs_eq (m : Nat) : signsF m = signsE (m / 4096 % 16) (bt m) := by
  show [sgn m 0 _, sgn m 1 _, sgn m 2 _, sgn m 3 _, sgn m 4 _, sgn m 5 _, sgn m 6 _, sgn m 7 _, sgn m 8 _, sgn m 9 _] = _
  have e0 := sgn_kind m [(40960, "l"), (49152, "s"), (32768, "-"), (24576, "b"), (16384, "d"), (8192, "c"), (4096, "p")] (by decide +kernel)
  have e1 := sgn_one m 8 "r" 1 "-r" (by decide) (by decide) (by decide)
  have e2 := sgn_one m 7 "w" 2 "-w" (by decide) (by decide) (by decide)
  have e3 := sgn_three m 6 11 2112 "s" "S" "Ss" 3 (by decide) (by decide) (by decide) (by decide) (by decide) (by decide)
  have e4 := sgn_one m 5 "r" 4 "-r" (by decide) (by decide) (by decide)
  have e5 := sgn_one m 4 "w" 5 "-w" (by decide) (by decide) (by decide)
  have e6 := sgn_three m 3 10 1032 "s" "S" "Ss" 6 (by decide) (by decide) (by decide) (by decide) (by decide) (by decide)
  have e7 := sgn_one m 2 "r" 7 "-r" (by decide) (by decide) (by decide)
  have e8 := sgn_one m 1 "w" 8 "-w" (by decide) (by decide) (by decide)
  have e9 := sgn_three m 0 9 513 "t" "T" "Tt" 9 (by decide) (by decide) (by decide) (by decide) (by decide) (by decide)
  simp only [show (2 : Nat) ^ 8 = 256 from rfl, show (2 : Nat) ^ 7 = 128 from rfl, show (2 : Nat) ^ 6 = 64 from rfl, show (2 : Nat) ^ 11 = 2048 from rfl, show (2 : Nat) ^ 5 = 32 from rfl, show (2 : Nat) ^ 4 = 16 from rfl, show (2 : Nat) ^ 3 = 8 from rfl, show (2 : Nat) ^ 10 = 1024 from rfl, show (2 : Nat) ^ 2 = 4 from rfl, show (2 : Nat) ^ 1 = 2 from rfl, show (2 : Nat) ^ 0 = 1 from rfl, show (2 : Nat) ^ 9 = 512 from rfl] at e1 e2 e3 e4 e5 e6 e7 e8 e9
  rw [e0, e1, e2, e3, e4, e5, e6, e7, e8, e9]
  rfl
theorem signsF_get {m i : Nat} {row : List (Nat × Str)} (h : TABLE[i]? = some row) : (signsF m)[i]? = some (sgn m i row) := by unfold signsF; rw [List.getElem?_mapIdx, h]; rfl
theorem signsF_len (m : Nat) : (signsF m).length = 10 := by rw [signs_eq]; rfl
theorem signsF_sum (m : Nat) : ((signsF m).map (·.length)).sum + (signsF m).length * Str.length "" ≤ 16777216 := by rw [signs_eq]; show 10 + 10 * Str.length "" ≤ _; decide
end Mine
end

-- Base
section
open PySem PySem.W PyProof.Rows PySem.W.X
set_option Elab.async false
set_option maxRecDepth 100000
set_option maxHeartbeats 0
namespace Mine
abbrev P0 := PySem.Challenge.pw_in0208_01
abbrev AL (d u : Nat) : Around := { handled := none, depth := d, units := u }
def Grown (h h' : Heap) : Prop := ∀ b o, h.get? b = some o → h'.get? b = some o
theorem Grown.refl (h : Heap) : Grown h h := fun _ _ e => e
theorem Grown.trans {a b c : Heap} (x : Grown a b) (y : Grown b c) : Grown a c := fun _ _ e => y _ _ (x _ _ e)
theorem keepAll {h h' : Heap} {news : List (Addr × Obj)} (D : Mem h h' [] news) : Grown h h' := fun b o e => D.keep b o e (by simp [away])
/-- a call that only grows the heap: its answer R (old heap, new heap, value) -/
def Ctr (w : World) (d u : Nat) (f : Addr) (vs : List Value) (Pre : Heap → Prop) (R : Heap → Heap → Value → Prop) : Prop :=
  ∀ (mean : ExcName → Option Value) (mg mb : Str → Option Value) (s : Shared) (Q E : Value → Shared → Prop),
    (hd.heap_39 w.params).In s.heap → Top hd.view_39 [Str.ofString "_filemode_table"] mean mg mb s.heap → Pre s.heap →
    (∀ v h' tk', Grown s.heap h' → R s.heap h' v → Q v { s with heap := h', toks := tk' }) →
    wpAny (model P0 w) (AL d u) (call (.ref f) vs) Q E s
def Out (s : Shared) (Q : Value → Shared → Prop) (R : Heap → Heap → Value → Prop) : Prop := ∀ v h' tk', Grown s.heap h' → R s.heap h' v → Q v { s with heap := h', toks := tk' }
theorem out_of {s : Shared} {Q : Value → Shared → Prop} {R : Heap → Heap → Value → Prop} (H : Out s Q R) {v h' t' news} (D : Mem s.heap h' [] news) (hv : R s.heap h' v) : Q v ⟨h', s.gens, s.drawn, t', s.os⟩ := H v h' t' (keepAll D) hv
theorem wpAny_AL {w : World} {A : Around} {d u : Nat} {α : Type} {t : Sem α} {Q : α → Shared → Prop} {E : Value → Shared → Prop} {s : Shared} (h : wpAny (model P0 w) (AL d u) t Q E s)
    (hA : A.handled = none) (hd : A.depth ≤ d) (hu : A.units ≤ u) : wpAny (model P0 w) A t Q E s := fun Γ p hΓ =>
  h Γ p ⟨hΓ.1.trans hA, Nat.le_trans hΓ.2.1 hd, fun l e => (nomatch e), fun g e => (nomatch e), Nat.le_trans hΓ.2.2.2.2 hu⟩
abbrev AG (d u : Nat) : Around := { handled := none, depth := d, guards := some [], units := u }
theorem wpAny_AG {w : World} {A : Around} {d u : Nat} {α : Type} {t : Sem α} {Q : α → Shared → Prop} {E : Value → Shared → Prop} {s : Shared} (h : wpAny (model P0 w) (AG d u) t Q E s)
    (hA : A.handled = none) (hg : A.guards = some []) (hd : A.depth ≤ d) (hu : A.units ≤ u) : wpAny (model P0 w) A t Q E s := fun Γ p hΓ =>
  h Γ p ⟨hΓ.1.trans hA, Nat.le_trans hΓ.2.1 hd, fun l e => (nomatch e), fun g e => hΓ.2.2.2.1 g (hg.trans e), Nat.le_trans hΓ.2.2.2.2 hu⟩
def IsS (x : Str) (_ _ : Heap) (v : Value) : Prop := ∃ t, v = .str x t
end Mine
end

-- Enter
section
open PySem PySem.W PyProof.Rows PySem.W.X PySem.Calls
set_option Elab.async false
set_option maxRecDepth 100000
set_option maxHeartbeats 0
namespace Mine
theorem filled : PySem.Challenge.rw_in0208_01 = PySem.Challenge.rw_in0208_01 ∧ hd.heap_39 = hd.heap_39 := by k_fill; exact ⟨rfl, rfl⟩
abbrev LS : List Str := [Str.ofString "_filemode_table"]
/-- entering a def of the written part: the base is the whole heap at the call -/
theorem enter {w : World} {d u : Nat} {s : Shared} {Q E : Value → Shared → Prop} {mean : ExcName → Option Value} {mg mb : Str → Option Value} {name qual : Str} {params : Arguments} {body : List Stmt} {scope : Scope} {dV kV doc pm cdv ct oc : Value} {an od : Option Addr} {osl : Array (Option Value)} {f : Addr} {vs : List Value} {binds : List (Str × Value)}
    (X : (hd.heap_39 w.params).In s.heap) (T : Top hd.view_39 LS mean mg mb s.heap)
    (ho : (hd.heap_39 w.params).lookup f = some ⟨oc, od, .func (fnOf name qual params body scope dV kV doc pm an cdv ct), osl⟩) (hcd : codeIn (hd.heap_39 w.params) cdv qual = true)
    (hroom : (AL d u).depth < recursionLimit)
    (hbind : BindsTo s (fnOf name qual params body scope dV kV doc pm an cdv ct) ⟨vs, []⟩ binds) (hloc : ∀ y ∈ binds, scope.names.lookup y.1 = some .local)
    (h : ∀ L h₁, Fr s.heap L h₁ (fun y => binds.reverse.lookup y) → News s.heap L h₁ [] →
      wpAny (model P0 w) ((AL d u).deeper (envOf qual scope L f cdv)) (execs body (envOf qual scope L f cdv))
        (fun fl s' => Q (match fl with | .ret v => v | _ => .none) s') (fun _ _ => False)
        { s with heap := h₁, toks := s.toks + binds.length })
    (hcell : ∀ x ∈ scope.names, x.2 ≠ .cell) (hco : scope.isCoroutine = false) (hgen : scope.isGenerator = false) (hk : scope.kind = .function) :
    wpAny (model P0 w) (AL d u) (call (.ref f) vs) Q E s := by
  refine wpAny_call ?_
  refine codeAny_call_def (fd := fnOf name qual params body scope dV kV doc pm an cdv ct) (body := body) (binds := binds) hroom (X _ _ ho) rfl T.nolimit (codeRec_of X hcd) rfl hbind hcell hloc (fun h₁ hns hk₁ => ?_) hco hgen hk
  exact wpAny_mono (h _ h₁ ⟨hns, hk₁, Nat.le_refl _⟩ News.nil) (fun _ _ x => x) fun _ _ x => x.elim

/-- entering a def some of whose names are cells -/
theorem enterC {w : World} {d u : Nat} {s : Shared} {Q E : Value → Shared → Prop} {mean : ExcName → Option Value} {mg mb : Str → Option Value} {name qual : Str} {params : Arguments} {body : List Stmt} {scope : Scope} {dV kV doc pm cdv ct oc : Value} {an od : Option Addr} {osl : Array (Option Value)} {f : Addr} {vs : List Value} {binds : List (Str × Value)}
    (X : (hd.heap_39 w.params).In s.heap) (T : Top hd.view_39 LS mean mg mb s.heap)
    (ho : (hd.heap_39 w.params).lookup f = some ⟨oc, od, .func (fnOf name qual params body scope dV kV doc pm an cdv ct), osl⟩) (hcd : codeIn (hd.heap_39 w.params) cdv qual = true)
    (hroom : (AL d u).depth < recursionLimit)
    (hbind : BindsTo s (fnOf name qual params body scope dV kV doc pm an cdv ct) ⟨vs, []⟩ binds)
    (hkind : (binds.all fun y => scope.names.lookup y.1 == some .local || scope.names.lookup y.1 == some .cell) = true)
    (hnd : ((cellsFrom 0 scope.names []).map (·.1)).Nodup)
    (h : ∀ L h₁ tk cells, Fr s.heap L h₁ (bindL (envOfC qual scope L f cdv).kindOf binds fun _ => none) → News s.heap L h₁ cells →
      CellsAre (bindC (envOfC qual scope L f cdv).kindOf binds fun _ => none) (cellsFrom (L + 1) scope.names []) cells →
      wpAny (model P0 w) ((AL d u).deeper (envOfC qual scope L f cdv)) (execs body (envOfC qual scope L f cdv))
        (fun fl s' => Q (match fl with | .ret v => v | _ => .none) s') (fun _ _ => False)
        { s with heap := h₁, toks := tk })
    (hco : scope.isCoroutine = false) (hgen : scope.isGenerator = false) (hk : scope.kind = .function) :
    wpAny (model P0 w) (AL d u) (call (.ref f) vs) Q E s := by
  refine wpAny_call ?_
  refine codeAny_call_function hroom (X _ _ ho) rfl hco hgen rfl (codeRec_of X hcd) (hbind _ _ _ _ ?_)
  refine wpAny_newFunctionEnv_cells hk (kindsX hkind _) fun env' he s' x => ?_
  subst he
  refine ⟨T.nolimit.keeps x.toInCall.keep, codeAny_func ?_⟩
  obtain ⟨h₁, tk, rfl, _⟩ := x.done
  have hk₁ := x.toInCall.keep
  obtain ⟨cells, NC, Y⟩ := Cl.news (h₀ := s.heap) (Nat.le_refl _) fun n c hm => ⟨x.cell n c (lookup_of_mem_nodup (cellsFrom_names scope.names 0 (s.heap.objs.size + 1) [] [] rfl ▸ hnd) hm), x.above n c hm⟩
  exact wpAny_mono (h s.heap.objs.size h₁ tk cells ⟨x.toInCall.ns, hk₁, Nat.le_refl _⟩ NC Y) (fun fl s' hl => hl) fun _ _ y => y.elim

/-- using a contract inside a frame -/
theorem use {w : World} {d u : Nat} {f : Addr} {vs : List Value} {Pre : Heap → Prop} {R : Heap → Heap → Value → Prop} (C : Ctr w d u f vs Pre R)
    {A : Around} {g : Heap} {L : Addr} {s : Shared} {m : Str → Option Value} {news : List (Addr × Obj)} {mean : ExcName → Option Value} {mg mb : Str → Option Value} {Q E : Value → Shared → Prop}
    (F : Fr g L s.heap m) (N : News g L s.heap news) (X : (hd.heap_39 w.params).In g) (T : Top hd.view_39 LS mean mg mb g)
    (hA : A.handled = none) (hd : A.depth ≤ d) (hu : A.units ≤ u) (pre : Pre s.heap)
    (h : ∀ v h' tk', R s.heap h' v → Grown s.heap h' → Fr g L h' m → News g L h' news → Q v { s with heap := h', toks := tk' }) :
    wpAny (model P0 w) A (call (.ref f) vs) Q E s := by
  refine wpAny_AL (C mean mg mb s Q E (X.keeps F.keep) (T.keeps F.keep) pre ?_) hA hd hu
  intro v h' tk' hk hR
  refine h v h' tk' hR hk ⟨F.ns.keeps hk, fun b o e => hk _ _ (F.keep b o e), F.above⟩ fun p hp => ⟨hk _ _ (N p hp).1, (N p hp).2⟩
theorem fin {s : Shared} {Q : Value → Shared → Prop} {R : Heap → Heap → Value → Prop} (H : Out s Q R) {L : Addr} {h' : Heap} {m : Str → Option Value} {tk' : Nat} {v : Value} (F : Fr s.heap L h' m) (hv : R s.heap h' v) : Q v { s with heap := h', toks := tk' } := H v h' tk' F.keep hv
end Mine
end

-- F1
section
open PySem PySem.W PyProof.Rows PySem.W.X PySem.Calls
set_option Elab.async false
set_option maxRecDepth 100000
set_option linter.unusedVariables false
namespace Mine
abbrev PD := PyData
/-- the data's objects; the texts' tokens, with what they stand for; a bound of the tokens -/
structure Ad where
  p : Addr → Prop
  T : Tok → Str → Prop
  n : Nat
abbrev Pr := Addr → Prop
abbrev Ad.or (D : Ad) (q : Pr) : Ad := ⟨fun a => D.p a ∨ q a, D.T, D.n⟩
abbrev Ad.mint (D : Ad) (t : Tok) (x : Str) : Ad := ⟨D.p, fun u y => D.T u y ∨ (u = t ∧ y = x), t + 1⟩
structure Ad.ok (D : Ad) : Prop where
  fn : ∀ t x y, D.T t x → D.T t y → x = y
  ub : ∀ t x, D.T t x → t ≠ 0 ∧ t < D.n
  pos : 0 < D.n
theorem Ad.ok.mint {D : Ad} (o : D.ok) {t : Tok} {x : Str} (h : D.n ≤ t) : (D.mint t x).ok where
  fn := fun u y z a b => by
    rcases a with a | ⟨rfl, rfl⟩
    · rcases b with b | ⟨rfl, rfl⟩
      · exact o.fn u y z a b
      · exact absurd (o.ub _ _ a).2 (Nat.not_lt.mpr h)
    · rcases b with b | ⟨_, rfl⟩
      · exact absurd (o.ub _ _ b).2 (Nat.not_lt.mpr h)
      · rfl
  ub := fun u y a => by
    rcases a with a | ⟨rfl, rfl⟩
    · exact ⟨(o.ub _ _ a).1, Nat.lt_succ_of_le (Nat.le_trans (Nat.le_of_lt (o.ub _ _ a).2) h)⟩
    · exact ⟨Nat.ne_of_gt (Nat.lt_of_lt_of_le o.pos h), Nat.lt_succ_self _⟩
  pos := Nat.succ_pos _

mutual
/-- a value is the datum, over objects of D -/
inductive Rd (D : Ad) (h : Heap) : Value → PD → Prop
  | none : Rd D h .none .none
  | bool (b : Bool) : Rd D h (.bool b) (.bool b)
  | int (i : Int) (t : Tok) : Rd D h (.int i t) (.int i)
  | str (x : Str) (t : Tok) (q : D.T t x) : Rd D h (.str x t) (.str x)
  | list {a vs n xs} : D.p a → h.get? a = some ⟨.type "list", none, .seq vs n, #[]⟩ → RdAll D h vs.toList xs → Rd D h (.ref a) (.list xs)
  | tuple {a vs n xs} : D.p a → h.get? a = some ⟨.type "tuple", none, .seq vs n, #[]⟩ → RdAll D h vs.toList xs → Rd D h (.ref a) (.tuple xs)
inductive RdAll (D : Ad) (h : Heap) : List Value → List PD → Prop
  | nil : RdAll D h [] []
  | cons {v vs d ds} : Rd D h v d → RdAll D h vs ds → RdAll D h (v :: vs) (d :: ds)
end
mutual
theorem Rd.keep {D D' : Ad} {h h' : Heap} (hk : ∀ a o, D.p a → h.get? a = some o → D'.p a ∧ h'.get? a = some o) (ht : ∀ t x, D.T t x → D'.T t x) : ∀ {v d}, Rd D h v d → Rd D' h' v d
  | _, _, .none => .none
  | _, _, .bool b => .bool b
  | _, _, .int i t => .int i t
  | _, _, .str x t q => .str x t (ht _ _ q)
  | _, _, .list hd ho r => .list (hk _ _ hd ho).1 (hk _ _ hd ho).2 (RdAll.keep hk ht r)
  | _, _, .tuple hd ho r => .tuple (hk _ _ hd ho).1 (hk _ _ hd ho).2 (RdAll.keep hk ht r)
theorem RdAll.keep {D D' : Ad} {h h' : Heap} (hk : ∀ a o, D.p a → h.get? a = some o → D'.p a ∧ h'.get? a = some o) (ht : ∀ t x, D.T t x → D'.T t x) : ∀ {vs ds}, RdAll D h vs ds → RdAll D' h' vs ds
  | _, _, .nil => .nil
  | _, _, .cons r rs => .cons (Rd.keep hk ht r) (RdAll.keep hk ht rs)
end
mutual
theorem Rd.reads {D : Ad} {h : Heap} : ∀ {v d}, Rd D h v d → ∃ as, Reads h v d as
  | _, _, .none => ⟨_, .none⟩
  | _, _, .bool b => ⟨_, .bool b⟩
  | _, _, .int i t => ⟨_, .int i t⟩
  | _, _, .str x t _ => ⟨_, .str x t⟩
  | _, _, .list _ ho r => let ⟨_, r'⟩ := RdAll.reads r; ⟨_, .list ho rfl rfl r'⟩
  | _, _, .tuple _ ho r => let ⟨_, r'⟩ := RdAll.reads r; ⟨_, .tuple ho rfl rfl r'⟩
theorem RdAll.reads {D : Ad} {h : Heap} : ∀ {vs ds}, RdAll D h vs ds → ∃ as, ReadsAll h vs ds as
  | _, _, .nil => ⟨_, .nil⟩
  | _, _, .cons r rs => let ⟨_, r'⟩ := Rd.reads r; let ⟨_, rs'⟩ := RdAll.reads rs; ⟨_, .cons r' rs'⟩
end
theorem RdAll.length {D : Ad} {h : Heap} : ∀ {vs ds}, RdAll D h vs ds → vs.length = ds.length
  | _, _, .nil => rfl
  | _, _, .cons _ rs => by rw [List.length_cons, List.length_cons, rs.length]
theorem RdAll.get {D : Ad} {h : Heap} : ∀ {vs ds}, RdAll D h vs ds → ∀ {i : Nat} {d}, ds[i]? = some d → ∃ v, vs[i]? = some v ∧ Rd D h v d
  | _, _, .nil, _, _, e => by simp at e
  | _, _, .cons (v := v) r rs, i, d, e => by
    cases i with
    | zero => simp at e; subst e; exact ⟨v, by simp, r⟩
    | succ i => simp at e; obtain ⟨v', h1, h2⟩ := rs.get e; exact ⟨v', by simpa using h1, h2⟩
theorem RdAll.get' {D : Ad} {h : Heap} : ∀ {vs ds}, RdAll D h vs ds → ∀ {i : Nat} {v}, vs[i]? = some v → ∃ d, ds[i]? = some d ∧ Rd D h v d
  | _, _, .nil, _, _, e => by simp at e
  | _, _, .cons (d := d) r rs, i, v, e => by
    cases i with
    | zero => simp at e; subst e; exact ⟨d, by simp, r⟩
    | succ i => simp at e; obtain ⟨v', h1, h2⟩ := rs.get' e; exact ⟨v', by simpa using h1, h2⟩
theorem RdAll.append {D : Ad} {h : Heap} : ∀ {vs ds us es}, RdAll D h vs ds → RdAll D h us es → RdAll D h (vs ++ us) (ds ++ es)
  | _, _, _, _, .nil, q => q
  | _, _, _, _, .cons r rs, q => .cons r (rs.append q)
theorem RdAll.take {D : Ad} {h : Heap} : ∀ {vs ds}, RdAll D h vs ds → ∀ n, RdAll D h (vs.take n) (ds.take n)
  | _, _, _, 0 => by simpa using RdAll.nil
  | _, _, .nil, n + 1 => by simpa using RdAll.nil
  | _, _, .cons r rs, n + 1 => by simpa using RdAll.cons r (rs.take n)
theorem RdAll.drop {D : Ad} {h : Heap} : ∀ {vs ds}, RdAll D h vs ds → ∀ n, RdAll D h (vs.drop n) (ds.drop n)
  | _, _, q, 0 => by simpa using q
  | _, _, .nil, n + 1 => by simpa using RdAll.nil
  | _, _, .cons r rs, n + 1 => by simpa using rs.drop n
theorem RdAll.reverse {D : Ad} {h : Heap} : ∀ {vs ds}, RdAll D h vs ds → RdAll D h vs.reverse ds.reverse
  | _, _, .nil => by simpa using RdAll.nil
  | _, _, .cons r rs => by simpa using rs.reverse.append (.cons r .nil)
theorem RdAll.set {D : Ad} {h : Heap} : ∀ {vs ds}, RdAll D h vs ds → ∀ (n : Nat) {v d}, Rd D h v d → RdAll D h (vs.set n v) (ds.set n d)
  | _, _, .nil, _, _, _, _ => by simpa using RdAll.nil
  | _, _, .cons _ rs, 0, _, _, q => by simpa using RdAll.cons q rs
  | _, _, .cons r rs, n + 1, _, _, q => by simpa using RdAll.cons r (rs.set n q)

/-- what the run of an expression leaves: the heap has grown; the data may use the old data's objects and new ones -/
structure Aft (D : Ad) (h : Heap) (n : Nat) (D' : Ad) (h' : Heap) (n' : Nat) : Prop where
  grown : Grown h h'
  sub : ∀ a, D.p a → D'.p a
  fresh : ∀ a, D'.p a → D.p a ∨ (h.get? a = none ∧ ∃ o, h'.get? a = some o)
  tsub : ∀ t x, D.T t x → D'.T t x
  mono : n ≤ n'
  ok : D.ok → D.n ≤ n → D'.ok ∧ D'.n ≤ n'
theorem Aft.refl (D : Ad) (h : Heap) {n n' : Nat} (m : n ≤ n' := by first | exact Nat.le_refl _ | exact Nat.le_succ _ | exact Nat.le_succ_of_le (Nat.le_succ _) | exact Nat.le_add_right _ _ | assumption) : Aft D h n D h n' := ⟨Grown.refl h, fun _ x => x, fun _ x => .inl x, fun _ _ q => q, m, fun o q => ⟨o, Nat.le_trans q m⟩⟩
theorem Grown.none {h h' : Heap} (g : Grown h h') {a : Addr} (e : h'.get? a = none) : h.get? a = none := by
  cases q : h.get? a with
  | none => rfl
  | some o => rw [g _ _ q] at e; cases e
theorem Aft.trans {D D' D'' : Ad} {h h' h'' : Heap} {n n' n'' : Nat} (x : Aft D h n D' h' n') (y : Aft D' h' n' D'' h'' n'') : Aft D h n D'' h'' n'' :=
  ⟨x.grown.trans y.grown, fun a q => y.sub a (x.sub a q), fun a q => (y.fresh a q).elim (fun q => (x.fresh a q).imp id fun ⟨e, o, e'⟩ => ⟨e, o, y.grown _ _ e'⟩) fun ⟨e, o⟩ => .inr ⟨x.grown.none e, o⟩, fun t z q => y.tsub t z (x.tsub t z q), Nat.le_trans x.mono y.mono, fun o q => let ⟨o', q'⟩ := x.ok o q; y.ok o' q'⟩
theorem Aft.later {D D' : Ad} {h h' : Heap} {n n' n'' : Nat} (x : Aft D h n D' h' n') (m : n' ≤ n'' := by first | exact Nat.le_refl _ | exact Nat.le_succ _ | exact Nat.le_succ_of_le (Nat.le_succ _) | exact Nat.le_add_right _ _ | assumption) : Aft D h n D' h' n'' := x.trans (Aft.refl _ _ m)
theorem Aft.rd {D D' : Ad} {h h' : Heap} {n n' : Nat} (x : Aft D h n D' h' n') {v d} (r : Rd D h v d) : Rd D' h' v d := r.keep (fun a o q e => ⟨x.sub a q, x.grown _ _ e⟩) x.tsub
theorem Aft.rdAll {D D' : Ad} {h h' : Heap} {n n' : Nat} (x : Aft D h n D' h' n') {v d} (r : RdAll D h v d) : RdAll D' h' v d := r.keep (fun a o q e => ⟨x.sub a q, x.grown _ _ e⟩) x.tsub
theorem Aft.of_grown {D : Ad} {h h' : Heap} {n n' : Nat} (g : Grown h h') (m : n ≤ n' := by first | exact Nat.le_refl _ | exact Nat.le_succ _ | exact Nat.le_add_right _ _ | assumption) : Aft D h n D h' n' := ⟨g, fun _ x => x, fun _ x => .inl x, fun _ _ q => q, m, fun o q => ⟨o, Nat.le_trans q m⟩⟩
/-- one new text -/
theorem Aft.mint (D : Ad) (h : Heap) (n : Nat) (x : Str) : Aft D h n (D.mint n x) h (n + 1) := ⟨Grown.refl h, fun _ x => x, fun _ x => .inl x, fun _ _ q => .inl q, Nat.le_succ _, fun o q => ⟨o.mint q, Nat.le_refl _⟩⟩
theorem rd_mint {D : Ad} {h : Heap} {n : Nat} {x : Str} : Rd (D.mint n x) h (.str x n) (.str x) := .str _ _ (.inr ⟨rfl, rfl⟩)
/-- one new object, a datum's -/
theorem size_fresh (h : Heap) : h.get? h.objs.size = none := by
  cases q : h.get? h.objs.size with
  | none => rfl
  | some o => exact absurd (Heap.lt_size q) (Nat.lt_irrefl _)
theorem Aft.push {D : Ad} {h : Heap} {n : Nat} (o : Obj) (hf : o.isFreed = false := by rfl) : Aft D h n (D.or fun a => a = h.objs.size) (h.push o) n :=
  ⟨fun _ _ e => Heap.get?_push_of_some _ e, fun _ x => .inl x, fun a x => x.elim .inl fun e => .inr (by
    subst e
    exact ⟨size_fresh h, o, Heap.get?_push_size _ hf⟩), fun _ _ q => q, Nat.le_refl _, fun o q => ⟨⟨o.fn, o.ub, o.pos⟩, q⟩⟩
theorem Aft.push_off {D : Ad} {h : Heap} {n : Nat} (o : Obj) : Aft D h n D (h.push o) n := ⟨fun _ _ e => Heap.get?_push_of_some _ e, fun _ q => q, fun _ q => .inl q, fun _ _ q => q, Nat.le_refl _, fun o q => ⟨o, q⟩⟩

/-- the written part and the top's facts -/
def KT (w : World) (h : Heap) : Prop := (hd.heap_39 w.params).In h ∧ ∃ mean mg mb, Top hd.view_39 LS mean mg mb h
theorem KT.grow {w : World} {h h' : Heap} (x : KT w h) (g : Grown h h') : KT w h' := let ⟨a, mean, mg, mb, t⟩ := x; ⟨a.keeps g, mean, mg, mb, t.keeps g⟩
structure Okk (A : Around) (dp un : Nat) : Prop where
  h : A.handled = none
  d : A.depth ≤ dp
  u : A.units ≤ un
  g : A.guards = some []

def VarAt (env : Env) (h : Heap) (x : Str) (v : Value) : Prop :=
  (env.kindOf x = some .local ∧ ∃ m, h.Ns env.locals m ∧ m x = some v) ∨
  ((env.kindOf x = some .cell ∨ env.kindOf x = some .free) ∧ ∃ c, env.cells.lookup x = some c ∧ h.IsCell c (some v))
theorem VarAt.grow {env : Env} {h h' : Heap} {x : Str} {v : Value} (q : VarAt env h x v) (g : Grown h h') : VarAt env h' x v := by
  rcases q with ⟨k, m, n, e⟩ | ⟨k, c, e, o⟩
  · exact .inl ⟨k, m, n.keeps g, e⟩
  · exact .inr ⟨k, c, e, o.keeps g⟩
def Look (env : Env) (D : Ad) (h : Heap) (ρ : Str → Option PD) : Prop := ∀ x d, ρ x = some d → ∃ v, VarAt env h x v ∧ Rd D h v d
theorem Look.aft {env : Env} {D D' : Ad} {h h' : Heap} {n n' : Nat} {ρ : Str → Option PD} (l : Look env D h ρ) (x : Aft D h n D' h' n') : Look env D' h' ρ :=
  fun y d e => let ⟨v, a, r⟩ := l y d e; ⟨v, a.grow x.grown, x.rd r⟩

/-- the tree gives the datum -/
def Val (w : World) (A : Around) (D : Ad) (s : Shared) (t : Sem Value) (d : PD) : Prop := ∀ (Q E : Value → Shared → Prop),
  (∀ v h' tk' D', Aft D s.heap s.toks D' h' tk' → Rd D' h' v d → Q v { s with heap := h', toks := tk' }) → wpAny (model P0 w) A t Q E s
def Vals (w : World) (A : Around) (D : Ad) (s : Shared) (t : Sem (List Value)) (ds : List PD) : Prop := ∀ (Q : List Value → Shared → Prop) (E : Value → Shared → Prop),
  (∀ vs h' tk' D', Aft D s.heap s.toks D' h' tk' → RdAll D' h' vs ds → Q vs { s with heap := h', toks := tk' }) → wpAny (model P0 w) A t Q E s
def Tst (w : World) (A : Around) (D : Ad) (s : Shared) (t : Sem Bool) (b : Bool) : Prop := ∀ (Q : Bool → Shared → Prop) (E : Value → Shared → Prop),
  (∀ h' tk' D', Aft D s.heap s.toks D' h' tk' → Q b { s with heap := h', toks := tk' }) → wpAny (model P0 w) A t Q E s

/-- where an expression stands: the world, the room, the frame, its names -/
structure Cx where
  w : World
  dp : Nat
  un : Nat
  env : Env
  /-- the texts' tokens are kept apart -/
  st : Bool := true
def Tk (b : Bool) (D : Ad) (n : Nat) : Prop := (b = true → D.ok ∧ D.n ≤ n) ∧ (b = false → ∀ t x, D.T t x)
theorem Tk.aft {b : Bool} {D D' : Ad} {h h' : Heap} {n n' : Nat} (x : Tk b D n) (a : Aft D h n D' h' n') : Tk b D' n' := ⟨fun e => let ⟨o, q⟩ := x.1 e; a.ok o q, fun e t y => a.tsub t y (x.2 e t y)⟩
/-- the written part's objects are data -/
def KD (w : World) (D : Ad) : Prop := ∀ a o, (hd.heap_39 w.params).lookup a = some o → D.p a
/-- the heap's own state -/
structure HS (c : Cx) (D : Ad) (s : Shared) : Prop where
  kt : KT c.w s.heap
  kd : KD c.w D
  dl : ∀ a, D.p a → ∃ o, s.heap.get? a = some o
  tk : Tk c.st D s.toks
theorem HS.aft {c : Cx} {D D' : Ad} {s s' : Shared} (x : HS c D s) (a : Aft D s.heap s.toks D' s'.heap s'.toks) : HS c D' s' :=
  ⟨x.kt.grow a.grown, fun b o e => a.sub b (x.kd b o e), fun b q => (a.fresh b q).elim (fun q => let ⟨o, e⟩ := x.dl b q; ⟨o, a.grown _ _ e⟩) fun q => q.2, x.tk.aft a⟩
structure At (c : Cx) (A : Around) (D : Ad) (s : Shared) (ρ : Str → Option PD) : Prop where
  ok : Okk A c.dp c.un
  hs : HS c D s
  look : Look c.env D s.heap ρ
  cs : ∀ x k, c.env.cells.lookup x = some k → ∃ v, s.heap.IsCell k v
  inj : ∀ x y k, c.env.cells.lookup x = some k → c.env.cells.lookup y = some k → x = y
theorem At.aft {c : Cx} {A : Around} {D D' : Ad} {s s' : Shared} {ρ : Str → Option PD} (x : At c A D s ρ) (a : Aft D s.heap s.toks D' s'.heap s'.toks) : At c A D' s' ρ := ⟨x.ok, x.hs.aft a, x.look.aft a, fun y k e => let ⟨v, o⟩ := x.cs y k e; ⟨v, o.keeps a.grown⟩, x.inj⟩

def EvE (c : Cx) (ρ : Str → Option PD) (e : Expr) (d : PD) : Prop := ∀ A D s, At c A D s ρ → Val c.w A D s (eval e c.env) d
def EvT (c : Cx) (ρ : Str → Option PD) (e : Expr) (b : Bool) : Prop := ∀ A D s, At c A D s ρ → Tst c.w A D s (isTrue e c.env (eval e c.env)) b
def EvEs (c : Cx) (ρ : Str → Option PD) (es : List Expr) (ds : List PD) : Prop := ∀ A D s pos, At c A D s ρ → Vals c.w A D s (spliced (backTo pos (starEach es c.env))) ds

section
variable {c : Cx} {ρ : Str → Option PD}

theorem ev_name {x : Str} {pos : Pos} {d : PD} (hk : c.env.scope.kind = .function) (hd : (x == ("__debug__" : Str)) = false) (hn : (x == ("__classdict__" : Str)) = false) (e : ρ x = some d) : EvE c ρ (.Name x pos) d := by
  intro A D s h Q E k
  obtain ⟨v, a, r⟩ := h.look x d e
  refine wpAny_Name ?_ hd
  have done : Q v s := k v s.heap s.toks D (Aft.refl _ _) r
  rcases a with ⟨kl, m, n, em⟩ | ⟨kl | kl, ce, el, o⟩
  · exact wpAny_loadName_local hk kl n em done
  · exact wpAny_loadName_cell hk kl el o done
  · exact wpAny_loadName_free hk kl el o done hn
theorem ev_int {i : Int} {k : Nat} {pos : Pos} : EvE c ρ (.Constant (.int i) k pos) (.int i) := fun _ D s _ _ _ q => wpAny_Constant_int (q _ s.heap (s.toks + 1) D (Aft.refl _ _) (.int _ _))
theorem ev_str {x : Str} {k : Nat} {pos : Pos} : EvE c ρ (.Constant (.str x) k pos) (.str x) := fun _ D s _ _ _ q => wpAny_Constant_str (q _ s.heap (s.toks + 1) _ (Aft.mint _ _ _ _) rd_mint)
theorem ev_bool {b : Bool} {k : Nat} {pos : Pos} : EvE c ρ (.Constant (.bool b) k pos) (.bool b) := fun _ D s _ _ _ q => Constant_bool (q _ s.heap s.toks D (Aft.refl _ _) (.bool _))

/-- two values, an operation -/
def Op2 (c : Cx) (t : Value → Value → Sem Value) (a b d : PD) : Prop := ∀ A D s va vb, Okk A c.dp c.un → HS c D s → Rd D s.heap va a → Rd D s.heap vb b → Val c.w A D s (t va vb) d
theorem ev_two {c : Cx} {ρ : Str → Option PD} {l r : Expr} {t : Value → Value → Sem Value} {a b d : PD} {A : Around} {D : Ad} {s : Shared} {Q E : Value → Shared → Prop} (h : At c A D s ρ) (hl : EvE c ρ l a) (hr : EvE c ρ r b) (ho : Op2 c t a b d)
    (k : ∀ v h' tk' D', Aft D s.heap s.toks D' h' tk' → Rd D' h' v d → Q v { s with heap := h', toks := tk' }) :
    wpAny (model P0 c.w) A (eval l c.env) (fun va s₁ => wpAny (model P0 c.w) A (eval r c.env) (fun vb s₂ => wpAny (model P0 c.w) A (t va vb) Q E s₂) E s₁) E s := by
  refine hl A D s h _ _ fun va h₁ t₁ D₁ a₁ r₁ => ?_
  have H₁ : At c A D₁ { s with heap := h₁, toks := t₁ } ρ := h.aft a₁
  refine hr A D₁ _ H₁ _ _ fun vb h₂ t₂ D₂ a₂ r₂ => ?_
  have H₂ : At c A D₂ { s with heap := h₂, toks := t₂ } ρ := H₁.aft (s' := { s with heap := h₂, toks := t₂ }) a₂
  exact ho A D₂ _ va vb h.ok H₂.hs (a₂.rd r₁) r₂ _ _ fun v h₃ t₃ D₃ a₃ r₃ => k v h₃ t₃ D₃ (a₁.trans (Aft.trans a₂ a₃)) r₃
theorem ev_bin {l r : Expr} {op : Operator} {pos : Pos} {a b d : PD} (hl : EvE c ρ l a) (hr : EvE c ρ r b) (ho : Op2 c (binaryOp op) a b d) : EvE c ρ (.BinOp l op r pos) d :=
  fun _ _ _ h _ _ k => wpAny_BinOp (ev_two h hl hr ho k)
theorem ev_cmp {l r : Expr} {op : CmpOp} {pos : Pos} {a b d : PD} (hl : EvE c ρ l a) (hr : EvE c ρ r b) (ho : Op2 c (compareOp op) a b d) (hm : behindInMarks op r = false) : EvE c ρ (.Compare l [op] [r] pos) d :=
  fun _ _ _ h _ _ k => wpAny_Compare1 (ev_two h hl hr ho k) hm
theorem es_nil : EvEs c ρ [] [] := fun _ D s _ _ _ _ k => args_nil (k _ s.heap s.toks D (Aft.refl _ _) .nil)
theorem es_cons {e : Expr} {es : List Expr} {d : PD} {ds : List PD} (h1 : EvE c ρ e d) (h2 : EvEs c ρ es ds) (he : starEach (e :: es) c.env = (false, eval e c.env) :: starEach es c.env) : EvEs c ρ (e :: es) (d :: ds) := by
  intro A D s pos h Q E k
  refine args_cons ?_ he
  refine h1 A D s h _ _ fun v h₁ t₁ D₁ a₁ r₁ => ?_
  exact h2 A D₁ _ pos (h.aft a₁) _ _ fun vs h₂ t₂ D₂ a₂ r₂ => k _ h₂ t₂ D₂ (a₁.trans a₂) (.cons (a₂.rd r₁) r₂)
/-- displays -/
theorem rd_new_list {D : Ad} {h : Heap} {vs : List Value} {ds : List PD} (r : RdAll D h vs ds) : Rd (D.or fun a => a = h.objs.size) (h.push { cls := .type "list", data := .seq vs.toArray }) (.ref h.objs.size) (.list ds) :=
  .list (.inr rfl) (Heap.get?_push_size _ rfl) (by simpa using (Aft.push (D := D) (h := h) (n := 0) _).rdAll r)
theorem rd_new_tuple {D : Ad} {h : Heap} {vs : List Value} {ds : List PD} (r : RdAll D h vs ds) : Rd (D.or fun a => a = h.objs.size) (h.push { cls := .type "tuple", data := .seq vs.toArray }) (.ref h.objs.size) (.tuple ds) :=
  .tuple (.inr rfl) (Heap.get?_push_size _ rfl) (by simpa using (Aft.push (D := D) (h := h) (n := 0) _).rdAll r)
theorem val_newList {w : World} {A : Around} {D : Ad} {s : Shared} {vs : List Value} {ds : List PD} (r : RdAll D s.heap vs ds) (hs : ds.length ≤ sizeLine) : Val w A D s (newList vs) (.list ds) :=
  fun _ _ k => wpAny_newObj_type (k _ _ s.toks _ (Aft.push _) (rd_new_list r)) (by show vs.toArray.size ≤ sizeLine; rw [List.size_toArray, r.length]; exact hs)
theorem val_newTuple {w : World} {A : Around} {D : Ad} {s : Shared} {vs : List Value} {ds : List PD} (r : RdAll D s.heap vs ds) (hs : ds.length ≤ sizeLine) : Val w A D s (newTuple vs) (.tuple ds) :=
  fun _ _ k => wpAny_newObj_type (k _ _ s.toks _ (Aft.push _) (rd_new_tuple r)) (by show vs.toArray.size ≤ sizeLine; rw [List.size_toArray, r.length]; exact hs)
theorem ev_list {es : List Expr} {pos : Pos} {ds : List PD} (h : EvEs c ρ es ds) (hs : ds.length ≤ sizeLine) : EvE c ρ (.List es pos) (.list ds) := by
  intro A D s a Q E k
  refine List_ ?_
  refine h A D s pos a _ _ fun vs h₁ t₁ D₁ a₁ r₁ => ?_
  exact val_newList (s := { s with heap := h₁, toks := t₁ }) r₁ hs _ _ fun v h₂ t₂ D₂ a₂ r₂ => k v h₂ t₂ D₂ (a₁.trans a₂) r₂
theorem ev_tuple {es : List Expr} {n : Nat} {pos : Pos} {ds : List PD} (h : EvEs c ρ es ds) (hs : ds.length ≤ sizeLine) : EvE c ρ (.Tuple es n pos) (.tuple ds) := by
  intro A D s a Q E k
  refine Tuple_ ?_
  refine h A D s pos a _ _ fun vs h₁ t₁ D₁ a₁ r₁ => ?_
  exact val_newTuple (s := { s with heap := h₁, toks := t₁ }) r₁ hs _ _ fun v h₂ t₂ D₂ a₂ r₂ => k v h₂ t₂ D₂ (a₁.trans a₂) r₂

/-- truth -/
def Tru (c : Cx) (d : PD) (b : Bool) : Prop := ∀ A D s v, Okk A c.dp c.un → Rd D s.heap v d → Tst c.w A D s (truthy v) b
theorem et_plain {e : Expr} {d : PD} {b : Bool} (h : EvE c ρ e d) (ht : Tru c d b) (he : isTrue e c.env (eval e c.env) = (do let v ← eval e c.env; standAt e.pos; holding [v] (truthy v))) : EvT c ρ e b := by
  intro A D s a Q E k
  refine isTrue_plain ?_ he
  refine h A D s a _ _ fun v h₁ t₁ D₁ a₁ r₁ => ?_
  exact ht A D₁ { s with heap := h₁, toks := t₁ } v a.ok r₁ _ _ fun h₂ t₂ D₂ a₂ => k h₂ t₂ D₂ (a₁.trans a₂)
theorem et_cmp {l r : Expr} {op : CmpOp} {pos : Pos} {a b : PD} {x : Bool} (hl : EvE c ρ l a) (hr : EvE c ρ r b) (ho : Op2 c (compareOp op) a b (.bool x)) (hm : behindInMarks op r = false) : EvT c ρ (.Compare l [op] [r] pos) x := by
  intro A D s h Q E k
  refine wpAny_isTrue_Compare1 ?_ hm
  refine hl A D s h _ _ fun va h₁ t₁ D₁ a₁ r₁ => ?_
  have H₁ : At c A D₁ { s with heap := h₁, toks := t₁ } ρ := h.aft a₁
  refine hr A D₁ _ H₁ _ _ fun vb h₂ t₂ D₂ a₂ r₂ => ?_
  have H₂ : At c A D₂ { s with heap := h₂, toks := t₂ } ρ := H₁.aft (s' := { s with heap := h₂, toks := t₂ }) a₂
  refine ho A D₂ _ va vb h.ok H₂.hs (a₂.rd r₁) r₂ _ _ fun v h₃ t₃ D₃ a₃ r₃ => ?_
  cases r₃
  exact wpAny_truthy_bool (k h₃ t₃ D₃ (a₁.trans (Aft.trans a₂ a₃)))
theorem et_not {e : Expr} {pos : Pos} {b : Bool} (h : EvT c ρ e b) : EvT c ρ (.UnaryOp .Not e pos) (!b) :=
  fun A D s a _ _ k => isTrue_not (h A D s a _ _ fun h₁ t₁ D₁ a₁ => k h₁ t₁ D₁ a₁)
/-- and, or: the operands one behind the other -/
def EvB (c : Cx) (ρ : Str → Option PD) (op : BoolOp) (es : List Expr) (b : Bool) : Prop := ∀ A D s pos whole, At c A D s ρ → Tst c.w A D s (isTrue (.BoolOp op es pos) c.env whole) b
theorem eb_and_nil : EvB c ρ .And [] true := fun _ D s _ _ _ _ _ k => isTrue_and_nil (k s.heap s.toks D (Aft.refl _ _))
theorem eb_or_nil : EvB c ρ .Or [] false := fun _ D s _ _ _ _ _ k => isTrue_or_nil (k s.heap s.toks D (Aft.refl _ _))
theorem eb_and {e : Expr} {es : List Expr} {b b' : Bool} (h : EvT c ρ e b) (h' : b = true → EvB c ρ .And es b') : EvB c ρ .And (e :: es) (b && b') := by
  intro A D s pos whole a Q E k
  refine isTrue_and ?_
  refine h A D s a _ _ fun h₁ t₁ D₁ a₁ => ?_
  cases b with
  | false => exact k h₁ t₁ D₁ a₁
  | true => exact h' rfl A D₁ { s with heap := h₁, toks := t₁ } pos whole (a.aft a₁) _ _ fun h₂ t₂ D₂ a₂ => k h₂ t₂ D₂ (a₁.trans a₂)
theorem eb_or {e : Expr} {es : List Expr} {b b' : Bool} (h : EvT c ρ e b) (h' : b = false → EvB c ρ .Or es b') : EvB c ρ .Or (e :: es) (b || b') := by
  intro A D s pos whole a Q E k
  refine isTrue_or ?_
  refine h A D s a _ _ fun h₁ t₁ D₁ a₁ => ?_
  cases b with
  | true => exact k h₁ t₁ D₁ a₁
  | false => exact h' rfl A D₁ { s with heap := h₁, toks := t₁ } pos whole (a.aft a₁) _ _ fun h₂ t₂ D₂ a₂ => k h₂ t₂ D₂ (a₁.trans a₂)
theorem et_bool {op : BoolOp} {es : List Expr} {pos : Pos} {b : Bool} (h : EvB c ρ op es b) : EvT c ρ (.BoolOp op es pos) b := fun A D s a => h A D s pos _ a
theorem ev_if {t e f : Expr} {pos : Pos} {b : Bool} {d : PD} (h : EvT c ρ t b) (h1 : b = true → EvE c ρ e d) (h2 : b = false → EvE c ρ f d) : EvE c ρ (.IfExp t e f pos) d := by
  intro A D s a Q E k
  refine IfExp_ ?_
  refine h A D s a _ _ fun h₁ t₁ D₁ a₁ => ?_
  cases b with
  | true => exact h1 rfl A D₁ { s with heap := h₁, toks := t₁ } (a.aft a₁) _ _ fun v h₂ t₂ D₂ a₂ r => k v h₂ t₂ D₂ (a₁.trans a₂) r
  | false => exact h2 rfl A D₁ { s with heap := h₁, toks := t₁ } (a.aft a₁) _ _ fun v h₂ t₂ D₂ a₂ r => k v h₂ t₂ D₂ (a₁.trans a₂) r
end
end Mine
end

-- F2
section
open PySem PySem.W PyProof.Rows PySem.W.X PySem.Calls PySem.Spec PySem.SeqAt
set_option Elab.async false
set_option maxRecDepth 100000
set_option linter.unusedVariables false
namespace Mine
theorem empty_cat {x y : Str} (h : (x.length == 0) = true) : x ++ y = y := by
  have h0 : x.cps = #[] := Array.eq_empty_of_size_eq_zero (by simpa [Str.length] using h)
  show Str.append x y = y
  cases y; simp [Str.append, h0]
theorem cat_empty {x y : Str} (h : (y.length == 0) = true) : x ++ y = x := by
  have h0 : y.cps = #[] := Array.eq_empty_of_size_eq_zero (by simpa [Str.length] using h)
  show Str.append x y = x
  cases x; simp [Str.append, h0]
theorem made_cat {x y : Str} {t u : Tok} {D : Ad} {s : Shared} {Q : Value → Shared → Prop} (k : ∀ v h' tk' D', Aft D s.heap s.toks D' h' tk' → Rd D' h' v (.str (x ++ y)) → Q v { s with heap := h', toks := tk' }) (n : D.T t x) (m : D.T u y) (h : x.length + y.length ≤ sizeLine) :
    (if x.length == 0 then Made.val (.str y u) else if y.length == 0 then Made.val (.str x t) else Made.str (x ++ y)).post Q s := by
  by_cases h1 : (x.length == 0) = true
  · rw [if_pos h1]; exact k _ s.heap s.toks D (Aft.refl _ _) (by rw [empty_cat h1]; exact .str _ _ m)
  · rw [if_neg h1]
    by_cases h2 : (y.length == 0) = true
    · rw [if_pos h2]; exact k _ s.heap s.toks D (Aft.refl _ _) (by rw [cat_empty h2]; exact .str _ _ n)
    · rw [if_neg h2]; exact ⟨by rw [show (x ++ y).length = x.length + y.length from Array.size_append]; exact h, k _ s.heap _ _ (Aft.mint _ _ _ _) rd_mint⟩
section
variable {c : Cx} {ρ : Str → Option PD} {a b : Int} {x y : Str}
/-- ints -/
theorem op_add : Op2 c (binaryOp .Add) (.int a) (.int b) (.int (a + b)) := by
  intro A D s va vb _ _ ra rb Q E k; cases ra; cases rb
  exact PyProof.Rows.add_int (k _ s.heap _ D (Aft.refl _ _) (.int _ _))
theorem op_sub : Op2 c (binaryOp .Sub) (.int a) (.int b) (.int (a - b)) := by
  intro A D s va vb _ _ ra rb Q E k; cases ra; cases rb
  exact PyProof.Rows.sub_int (k _ s.heap _ D (Aft.refl _ _) (.int _ _))
theorem op_mul (h : IntMulOk a b) : Op2 c (binaryOp .Mult) (.int a) (.int b) (.int (a * b)) := by
  intro A D s va vb _ _ ra rb Q E k; cases ra; cases rb
  exact PyProof.Rows.mul_int (k _ s.heap _ D (Aft.refl _ _) (.int _ _)) h
theorem op_div (hb : b ≠ 0) (h : Builtin.divisionGoesByPylong a b = false) : Op2 c (binaryOp .FloorDiv) (.int a) (.int b) (.int (a.fdiv b)) := by
  intro A D s va vb _ _ ra rb Q E k; cases ra; cases rb
  exact floordiv_int hb (k _ s.heap _ D (Aft.refl _ _) (.int _ _)) (.inl h)
theorem op_mod (hb : b ≠ 0) : Op2 c (binaryOp .Mod) (.int a) (.int b) (.int (a.fmod b)) := by
  intro A D s va vb _ _ ra rb Q E k; cases ra; cases rb
  exact PyProof.Rows.mod_int hb (k _ s.heap _ D (Aft.refl _ _) (.int _ _))
theorem op_pow (hn : 0 ≤ b) (hn2 : b ≤ 1000000) (ha : a.natAbs < 2 ^ 64) : Op2 c (binaryOp .Pow) (.int a) (.int b) (.int (a ^ b.toNat)) := by
  intro A D s va vb _ _ ra rb Q E k; cases ra; cases rb
  exact pow_int_small hn hn2 ha (k _ s.heap _ D (Aft.refl _ _) (.int _ _))
theorem op_and : Op2 c (binaryOp .BitAnd) (.int a) (.int b) (.int (Builtin.bitAnd a b)) := by
  intro A D s va vb _ _ ra rb Q E k; cases ra; cases rb
  exact PyProof.Rows.and_int (k _ s.heap _ D (Aft.refl _ _) (.int _ _))
theorem op_or : Op2 c (binaryOp .BitOr) (.int a) (.int b) (.int (Builtin.bitOr a b)) := by
  intro A D s va vb _ _ ra rb Q E k; cases ra; cases rb
  exact PyProof.Rows.or_int (k _ s.heap _ D (Aft.refl _ _) (.int _ _))
theorem op_xor : Op2 c (binaryOp .BitXor) (.int a) (.int b) (.int (Builtin.bitXor a b)) := by
  intro A D s va vb _ _ ra rb Q E k; cases ra; cases rb
  exact PyProof.Rows.xor_int (k _ s.heap _ D (Aft.refl _ _) (.int _ _))
theorem op_eq_int : Op2 c (compareOp .Eq) (.int a) (.int b) (.bool (a == b)) := by
  intro A D s va vb _ _ ra rb Q E k; cases ra; cases rb
  exact PyProof.Rows.eq_int (k _ s.heap s.toks D (Aft.refl _ _) (.bool _))
theorem op_ne_int : Op2 c (compareOp .NotEq) (.int a) (.int b) (.bool (a != b)) := by
  intro A D s va vb _ _ ra rb Q E k; cases ra; cases rb
  exact PyProof.Rows.ne_int (k _ s.heap s.toks D (Aft.refl _ _) (.bool _))
/-- texts -/
theorem op_add_str (h : x.length + y.length ≤ sizeLine) : Op2 c (binaryOp .Add) (.str x) (.str y) (.str (x ++ y)) := by
  intro A D s va vb _ _ ra rb Q E k; cases ra with | str _ t n => cases rb with | str _ u m => exact PySem.P.add_str (made_cat k n m h)
theorem op_eq_str : Op2 c (compareOp .Eq) (.str x) (.str y) (.bool (x == y)) := by
  intro A D s va vb _ _ ra rb Q E k; cases ra; cases rb
  exact eq_str (k _ s.heap s.toks D (Aft.refl _ _) (.bool _))
theorem op_ne_str : Op2 c (compareOp .NotEq) (.str x) (.str y) (.bool (x != y)) := by
  intro A D s va vb _ _ ra rb Q E k; cases ra; cases rb
  exact ne_str (k _ s.heap s.toks D (Aft.refl _ _) (.bool _))
/-- data of any kind -/
theorem op_eq_data {da db : PD} (ha : shaped da = true) (hb : shaped db = true) (hm : noMix da db = true) (hu : c.un + 64 < cLine) : Op2 c (compareOp .Eq) da db (.bool (PySem.Spec.same da db)) := by
  intro A D s va vb ok _ ra rb Q E k
  obtain ⟨_, ra'⟩ := ra.reads
  obtain ⟨_, rb'⟩ := rb.reads
  exact eq_dataH_same ra' rb' ha hb (Nat.lt_of_le_of_lt (Nat.add_le_add_right ok.u _) hu) hm (k _ s.heap s.toks D (Aft.refl _ _) (.bool _))
theorem op_ne_data {da db : PD} (ha : shaped da = true) (hb : shaped db = true) (hm : noMix da db = true) (hu : c.un + 64 < cLine) : Op2 c (compareOp .NotEq) da db (.bool (!PySem.Spec.same da db)) := by
  intro A D s va vb ok _ ra rb Q E k
  obtain ⟨_, ra'⟩ := ra.reads
  obtain ⟨_, rb'⟩ := rb.reads
  exact ne_dataH_same ra' rb' ha hb (Nat.lt_of_le_of_lt (Nat.add_le_add_right ok.u _) hu) hm (k _ s.heap s.toks D (Aft.refl _ _) (.bool _))
/-- lists -/
theorem op_add_list {xs ys : List PD} (h : xs.length + ys.length ≤ sizeLine) : Op2 c (binaryOp .Add) (.list xs) (.list ys) (.list (xs ++ ys)) := by
  intro A D s va vb _ _ ra rb Q E k
  cases ra with
  | list da oa ra =>
    cases rb with
    | list db ob rb =>
      rename_i a vs n b us m
      refine P.add_list (items := vs) (items2 := us) oa ob ?_ (by
        have h1 := ra.length; have h2 := rb.length
        rw [Array.length_toList] at h1 h2
        rw [h1, h2]; exact h)
      refine k _ _ s.toks _ (Aft.push _) (.list (.inr rfl) (Heap.get?_push_size _ rfl) ?_)
      rw [Array.toList_append]
      exact (Aft.push (n := 0) _).rdAll (ra.append rb)

/-- truth -/
theorem tru_bool {b : Bool} : Tru c (.bool b) b := by
  intro A D s v _ r Q E k; cases r
  exact wpAny_truthy_bool (k s.heap s.toks D (Aft.refl _ _))
end
end Mine
end

-- F3
section
open PySem PySem.W PyProof.Rows PySem.W.X PySem.Calls PySem.Spec PySem.SeqAt
set_option Elab.async false
set_option maxRecDepth 100000
set_option linter.unusedVariables false
namespace Mine
/-- how a run of statements ends -/
inductive PF where
  | next | brk | cont
  | ret (d : PD)
def FlR (D : Ad) (h : Heap) : Flow → PF → Prop
  | .next, .next => True
  | .brk, .brk => True
  | .cont, .cont => True
  | .ret v, .ret d => Rd D h v d
  | _, _ => False
/-- what a name of a frame holds: a datum, or a list of the frame's own -/
inductive Ent where
  | dat (d : PD)
  | own (a : Addr) (xs : List PD)
abbrev Nm := Str → Option Ent
def dats (ρ : Nm) : Str → Option PD := fun x => match ρ x with | some (.dat d) => some d | _ => none
def alls (ρ : Nm) : Str → Option PD := fun x => match ρ x with | some (.dat d) => some d | some (.own _ xs) => some (.list xs) | none => none
abbrev upd (ρ : Nm) (x : Str) (e : Ent) : Nm := fun y => if y = x then some e else ρ y

/-- what an iterator's step leaves: all but W is kept -/
structure Aft2 (W : Pr) (D : Ad) (h : Heap) (n : Nat) (D' : Ad) (h' : Heap) (n' : Nat) : Prop where
  kept : ∀ b o, ¬ W b → h.get? b = some o → h'.get? b = some o
  alive : ∀ b o, h.get? b = some o → ∃ o', h'.get? b = some o'
  sub : ∀ a, D.p a → D'.p a
  fresh : ∀ a, D'.p a → D.p a ∨ (h.get? a = none ∧ ∃ o, h'.get? a = some o)
  tsub : ∀ t x, D.T t x → D'.T t x
  mono : n ≤ n'
  ok : D.ok → D.n ≤ n → D'.ok ∧ D'.n ≤ n'
/-- what statements leave: all but W is kept; what was of W may have become data -/
structure Aft3 (W : Pr) (D : Ad) (h : Heap) (n : Nat) (D' : Ad) (h' : Heap) (n' : Nat) : Prop where
  kept : ∀ b o, ¬ W b → h.get? b = some o → h'.get? b = some o
  alive : ∀ b o, h.get? b = some o → ∃ o', h'.get? b = some o'
  sub : ∀ a, D.p a → D'.p a
  fresh : ∀ a, D'.p a → D.p a ∨ W a ∨ (h.get? a = none ∧ ∃ o, h'.get? a = some o)
  tsub : ∀ t x, D.T t x → D'.T t x
  mono : n ≤ n'
  ok : D.ok → D.n ≤ n → D'.ok ∧ D'.n ≤ n'
theorem Aft3.tk {W : Pr} {D D' : Ad} {h h' : Heap} {n n' : Nat} {b : Bool} (a : Aft3 W D h n D' h' n') (x : Tk b D n) : Tk b D' n' := ⟨fun e => let ⟨o, q⟩ := x.1 e; a.ok o q, fun e t y => a.tsub t y (x.2 e t y)⟩
theorem Aft3.refl (W : Pr) (D : Ad) (h : Heap) {n n' : Nat} (m : n ≤ n' := by first | exact Nat.le_refl _ | exact Nat.le_succ _ | assumption) : Aft3 W D h n D h n' := ⟨fun _ _ _ e => e, fun _ o e => ⟨o, e⟩, fun _ x => x, fun _ x => .inl x, fun _ _ q => q, m, fun o q => ⟨o, Nat.le_trans q m⟩⟩
theorem Aft3.none {W : Pr} {D D' : Ad} {h h' : Heap} {n n' : Nat} (x : Aft3 W D h n D' h' n') {a : Addr} (e : h'.get? a = none) : h.get? a = none := by
  cases q : h.get? a with
  | none => rfl
  | some o => obtain ⟨o', e'⟩ := x.alive a o q; rw [e'] at e; cases e
theorem Aft3.trans {W : Pr} {D D' D'' : Ad} {h h' h'' : Heap} {n n' n'' : Nat} (x : Aft3 W D h n D' h' n') (y : Aft3 W D' h' n' D'' h'' n'') : Aft3 W D h n D'' h'' n'' :=
  ⟨fun b o w e => y.kept b o w (x.kept b o w e), fun b o e => let ⟨o', e'⟩ := x.alive b o e; y.alive b o' e', fun a q => y.sub a (x.sub a q), fun a q => (y.fresh a q).elim (fun q => (x.fresh a q).imp id (Or.imp id fun ⟨e, o, e'⟩ => ⟨e, y.alive _ _ e'⟩)) (Or.elim · (fun q => .inr (.inl q)) fun ⟨e, o⟩ => .inr (.inr ⟨x.none e, o⟩)), fun t z q => y.tsub t z (x.tsub t z q), Nat.le_trans x.mono y.mono, fun o q => let ⟨o', q'⟩ := x.ok o q; y.ok o' q'⟩
theorem Aft.two {W : Pr} {D D' : Ad} {h h' : Heap} {n n' : Nat} (x : Aft D h n D' h' n') : Aft3 W D h n D' h' n' := ⟨fun b o _ e => x.grown b o e, fun b o e => ⟨o, x.grown b o e⟩, x.sub, fun a q => (x.fresh a q).imp id .inr, x.tsub, x.mono, x.ok⟩

def IsOwn (D : Ad) (h : Heap) (a : Addr) (xs : List PD) : Prop := ∃ vs n, h.get? a = some ⟨.type "list", none, .seq vs n, #[]⟩ ∧ RdAll D h vs.toList xs
def EntAt (W : Pr) (D : Ad) (h : Heap) : Value → Ent → Prop
  | v, .dat d => Rd D h v d
  | v, .own a xs => v = .ref a ∧ W a ∧ IsOwn D h a xs
/-- the frame's state -/
structure FS (c : Cx) (W : Pr) (base : Heap) (D : Ad) (h : Heap) (ρ : Nm) : Prop where
  kt : KT c.w base
  gr : Grown base h
  nw : ∀ a, W a → base.get? a = none
  off : ∀ a, D.p a → ¬ W a
  ex : ∀ a, W a → ∃ o, h.get? a = some o
  wl : W c.env.locals
  wc : ∀ x k, c.env.cells.lookup x = some k → W k ∨ ∃ o, base.get? k = some o
  inj : ∀ x y k, c.env.cells.lookup x = some k → c.env.cells.lookup y = some k → x = y
  ns : ∃ m, h.Ns c.env.locals m
  cs : ∀ x k, c.env.cells.lookup x = some k → ∃ v, h.IsCell k v
  look : ∀ x e, ρ x = some e → ∃ v, VarAt c.env h x v ∧ EntAt W D h v e
  kd : KD c.w D
  dl : ∀ a, D.p a → ∃ o, h.get? a = some o
theorem Rd.aft3 {W : Pr} {D D' : Ad} {h h' : Heap} {n n' : Nat} (off : ∀ a, D.p a → ¬ W a) (x : Aft3 W D h n D' h' n') {v d} (r : Rd D h v d) : Rd D' h' v d := r.keep (fun a o q e => ⟨x.sub a q, x.kept a o (off a q) e⟩) x.tsub
theorem RdAll.aft3 {W : Pr} {D D' : Ad} {h h' : Heap} {n n' : Nat} (off : ∀ a, D.p a → ¬ W a) (x : Aft3 W D h n D' h' n') {v d} (r : RdAll D h v d) : RdAll D' h' v d := r.keep (fun a o q e => ⟨x.sub a q, x.kept a o (off a q) e⟩) x.tsub
/-- an entry is kept by what keeps its objects -/
theorem EntAt.keep {W : Pr} {D D' : Ad} {h h' : Heap} {v : Value} {e : Ent} (r : EntAt W D h v e) (sub : ∀ a, D.p a → D'.p a) (ht : ∀ t x, D.T t x → D'.T t x) (kp : ∀ b o, D.p b → h.get? b = some o → h'.get? b = some o)
    (kw : ∀ b vs n, W b → h.get? b = some ⟨.type "list", none, .seq vs n, #[]⟩ → h'.get? b = some ⟨.type "list", none, .seq vs n, #[]⟩) : EntAt W D' h' v e := by
  cases e with
  | dat d => exact Rd.keep (fun a o q e => ⟨sub a q, kp a o q e⟩) ht r
  | own a xs =>
    obtain ⟨rfl, w, vs, n, o, r⟩ := r
    exact ⟨rfl, w, vs, n, kw _ _ _ w o, r.keep (fun a o q e => ⟨sub a q, kp a o q e⟩) ht⟩

section
variable {c : Cx} {W : Pr} {base : Heap} {D D' : Ad} {h h' : Heap} {ρ : Nm}
theorem FS.off' (f : FS c W base D h ρ) (sub : ∀ a, D'.p a → D.p a ∨ (h.get? a = none ∧ ∃ o, h'.get? a = some o)) : ∀ a, D'.p a → ¬ W a := fun a q w => by
  rcases sub a q with q | ⟨q, _⟩
  · exact f.off a q w
  · obtain ⟨o, e⟩ := f.ex a w; rw [e] at q; cases q
theorem FS.at {A : Around} {s : Shared} (f : FS c W base D s.heap ρ) (ok : Okk A c.dp c.un) (p : Tk c.st D s.toks) : At c A D s (dats ρ) := ⟨ok, ⟨f.kt.grow f.gr, f.kd, f.dl, p⟩, fun x d e => by
  unfold dats at e
  cases q : ρ x with
  | none => rw [q] at e; cases e
  | some z =>
    rw [q] at e
    cases z with
    | own a xs => cases e
    | dat d' => cases e; obtain ⟨v, a, r⟩ := f.look x _ q; exact ⟨v, a, r⟩, f.cs, f.inj⟩
def Owned (ρ : Nm) : Pr := fun a => ∃ x xs, ρ x = some (.own a xs)
theorem FS.at2 {A : Around} {s : Shared} (f : FS c W base D s.heap ρ) (ok : Okk A c.dp c.un) (p : Tk c.st D s.toks) : At c A (D.or (Owned ρ)) s (alls ρ) := ⟨ok, ⟨f.kt.grow f.gr, fun a o e => .inl (f.kd a o e), fun a q => q.elim (f.dl a) fun ⟨x, xs, e⟩ => by
    obtain ⟨v, _, rfl, w, _⟩ := f.look x _ e; exact f.ex a w, ⟨fun e => let ⟨o, q⟩ := p.1 e; ⟨⟨o.fn, o.ub, o.pos⟩, q⟩, p.2⟩⟩, fun x d e => by
  unfold alls at e
  cases q : ρ x with
  | none => rw [q] at e; cases e
  | some z =>
    rw [q] at e
    cases z with
    | own a xs => cases e; obtain ⟨v, at', rfl, w, vs, n, o, r⟩ := f.look x _ q; exact ⟨_, at', .list (.inr ⟨x, xs, q⟩) o (RdAll.keep (D := D) (D' := D.or (Owned ρ)) (fun a o q e => ⟨Or.inl q, e⟩) (fun _ _ q => q) r)⟩
    | dat d' => cases e; obtain ⟨v, a, r⟩ := f.look x _ q; exact ⟨v, a, Rd.keep (D := D) (D' := D.or (Owned ρ)) (fun a o q e => ⟨Or.inl q, e⟩) (fun _ _ q => q) r⟩, f.cs, f.inj⟩
theorem FS.aft {n n' : Nat} (f : FS c W base D h ρ) (x : Aft D h n D' h' n') : FS c W base D' h' ρ :=
  ⟨f.kt, f.gr.trans x.grown, f.nw, f.off' x.fresh, fun a w => let ⟨o, e⟩ := f.ex a w; ⟨o, x.grown _ _ e⟩, f.wl, f.wc, f.inj, let ⟨m, n⟩ := f.ns; ⟨m, n.keeps x.grown⟩,
    fun y k e => let ⟨v, o⟩ := f.cs y k e; ⟨v, o.keeps x.grown⟩, fun y e q => let ⟨v, a, r⟩ := f.look y e q; ⟨v, a.grow x.grown, r.keep x.sub x.tsub (fun b o _ e => x.grown b o e) fun b vs n _ e => x.grown _ _ e⟩, fun b o e => x.sub b (f.kd b o e), fun b q => (x.fresh b q).elim (fun q => let ⟨o, e⟩ := f.dl b q; ⟨o, x.grown _ _ e⟩) fun q => q.2⟩
/-- writing a name -/
theorem FS.ne_cell (f : FS c W base D h ρ) {x : Str} {k : Addr} (e : c.env.cells.lookup x = some k) : c.env.locals ≠ k := by
  intro q
  obtain ⟨m, o, es, ep, e1, d1, _⟩ := f.ns
  obtain ⟨v, o', e2, d2⟩ := f.cs x k e
  rw [← q, e1] at e2
  cases e2
  rw [d1] at d2
  cases d2
theorem FS.store_local (f : FS c W base D h ρ) {x : Str} {v : Value} {z : Ent} {m : Str → Option Value} (r : EntAt W D h v z) (n : h.Ns c.env.locals m) (hk : c.env.kindOf x = some .local)
    (n' : h'.Ns c.env.locals (fun y => if y = x then some v else m y)) (hs : Heap.SameBut c.env.locals h h') : FS c W base D h' (upd ρ x z) ∧ (∀ n n', n ≤ n' → Aft3 W D h n D h' n') := by
  have kp : ∀ b o, b ≠ c.env.locals → h.get? b = some o → h'.get? b = some o := fun b o q e => (hs.2 b q).trans e
  have a2 : ∀ n n', n ≤ n' → Aft3 W D h n D h' n' := fun k₁ k₂ m => by
    refine ⟨fun b o w e => kp b o (fun q => w (q ▸ f.wl)) e, fun b o e => ?_, fun _ x => x, fun _ x => .inl x, fun _ _ q => q, m, fun o q => ⟨o, Nat.le_trans q m⟩⟩
    by_cases q : b = c.env.locals
    · subst q; obtain ⟨o', _, _, e', _⟩ := n'; exact ⟨o', e'⟩
    · exact ⟨o, kp b o q e⟩
  have ek : ∀ {v e}, EntAt W D h v e → EntAt W D h' v e := fun r => r.keep (fun _ q => q) (fun _ _ q => q) (fun b o q e => kp b o (fun z => f.off b q (z ▸ f.wl)) e) fun b vs n' _ e => kp b _ (fun z => by
    obtain ⟨o, es, ep, e1, d1, dd, _⟩ := n
    rw [z] at e; rw [e] at e1; cases e1; cases d1) e
  refine ⟨⟨f.kt, fun b o e => kp b o (fun q => by rw [q, f.nw _ f.wl] at e; cases e) (f.gr b o e), f.nw, f.off, fun a w => let ⟨o, e⟩ := f.ex a w; (a2 0 0 (Nat.le_refl _)).alive a o e, f.wl, f.wc, f.inj, ⟨_, n'⟩,
    fun y k e => let ⟨v', o⟩ := f.cs y k e; ⟨v', o.sameBut hs (Ne.symm (f.ne_cell e))⟩, fun y d' e => ?_, f.kd, fun b q => let ⟨o, e⟩ := f.dl b q; (a2 0 0 (Nat.le_refl _)).alive b o e⟩, a2⟩
  by_cases q : y = x
  · subst q
    simp only [upd, if_true] at e
    cases e
    exact ⟨v, .inl ⟨hk, _, n', by simp⟩, ek r⟩
  · simp only [upd, if_neg q] at e
    obtain ⟨u, a, r'⟩ := f.look y d' e
    refine ⟨u, ?_, ek r'⟩
    rcases a with ⟨k, m', nn, em⟩ | ⟨k, cc, e1, o⟩
    · refine .inl ⟨k, _, n', ?_⟩
      obtain ⟨oa, ea, pa, ha, da, ka, fa⟩ := n
      obtain ⟨ob, eb, pb, hb, db, kb, fb⟩ := nn
      rw [ha] at hb; cases hb; rw [da] at db; cases db
      simp only [if_neg q]
      rw [← fa, fb]; exact em
    · exact .inr ⟨k, cc, e1, o.sameBut hs (Ne.symm (f.ne_cell e1))⟩
theorem FS.store_cell (f : FS c W base D h ρ) {x : Str} {k : Addr} {v : Value} {z : Ent} (r : EntAt W D h v z) (hk : c.env.kindOf x = some .cell) (hc : c.env.cells.lookup x = some k) (hw : W k)
    (n' : h'.IsCell k (some v)) (hs : Heap.SameBut k h h') : FS c W base D h' (upd ρ x z) ∧ (∀ n n', n ≤ n' → Aft3 W D h n D h' n') := by
  have kp : ∀ b o, b ≠ k → h.get? b = some o → h'.get? b = some o := fun b o q e => (hs.2 b q).trans e
  have a2 : ∀ n n', n ≤ n' → Aft3 W D h n D h' n' := fun k₁ k₂ m => by
    refine ⟨fun b o w e => kp b o (fun q => w (q ▸ hw)) e, fun b o e => ?_, fun _ x => x, fun _ x => .inl x, fun _ _ q => q, m, fun o q => ⟨o, Nat.le_trans q m⟩⟩
    by_cases q : b = k
    · subst q; obtain ⟨o', e', _⟩ := n'; exact ⟨o', e'⟩
    · exact ⟨o, kp b o q e⟩
  have ek : ∀ {v e}, EntAt W D h v e → EntAt W D h' v e := fun r => r.keep (fun _ q => q) (fun _ _ q => q) (fun b o q e => kp b o (fun z => f.off b q (z ▸ hw)) e) fun b vs n' _ e => kp b _ (fun z => by
    obtain ⟨v', o', e', d'⟩ := f.cs _ _ hc
    rw [z] at e; rw [e] at e'; cases e'; cases d') e
  have cell : ∀ y k', c.env.cells.lookup y = some k' → y ≠ x → k' ≠ k := fun y k' e q q' => q (f.inj y x k (q' ▸ e) hc)
  refine ⟨⟨f.kt, fun b o e => kp b o (fun q => by rw [q, f.nw _ hw] at e; cases e) (f.gr b o e), f.nw, f.off, fun a w => let ⟨o, e⟩ := f.ex a w; (a2 0 0 (Nat.le_refl _)).alive a o e, f.wl, f.wc, f.inj,
    let ⟨m, n⟩ := f.ns; ⟨m, n.sameBut hs (f.ne_cell hc)⟩, fun y k' e => ?_, fun y d' e => ?_, f.kd, fun b q => let ⟨o, e⟩ := f.dl b q; (a2 0 0 (Nat.le_refl _)).alive b o e⟩, a2⟩
  · by_cases q : y = x
    · subst q
      rw [hc] at e; cases e
      exact ⟨_, n'⟩
    · obtain ⟨v', o⟩ := f.cs y k' e
      exact ⟨v', o.sameBut hs (cell y k' e q)⟩
  by_cases q : y = x
  · subst q
    simp only [upd, if_true] at e
    cases e
    exact ⟨v, .inr ⟨.inl hk, k, hc, n'⟩, ek r⟩
  · simp only [upd, if_neg q] at e
    obtain ⟨u, a, r'⟩ := f.look y d' e
    refine ⟨u, ?_, ek r'⟩
    rcases a with ⟨kl, m', nn, em⟩ | ⟨kl, cc, e1, o⟩
    · exact .inl ⟨kl, m', nn.sameBut hs (f.ne_cell hc), em⟩
    · exact .inr ⟨kl, cc, e1, o.sameBut hs (cell y cc e1 q)⟩
end

/-- an expression, at a statement -/
def EvS (c : Cx) (ρ : Nm) (e : Expr) (d : PD) : Prop := ∀ A D s W base, Okk A c.dp c.un → Tk c.st D s.toks → FS c W base D s.heap ρ → Val c.w A D s (eval e c.env) d
def EvTS (c : Cx) (ρ : Nm) (e : Expr) (b : Bool) : Prop := ∀ A D s W base, Okk A c.dp c.un → Tk c.st D s.toks → FS c W base D s.heap ρ → Tst c.w A D s (isTrue e c.env (eval e c.env)) b
def flat : PD → Bool
  | .none | .bool _ | .int _ | .str _ => true
  | _ => false
theorem Rd.flat {D D' : Ad} {h h' : Heap} {v : Value} {d : PD} (r : Rd D h v d) (ht : ∀ t x, D.T t x → D'.T t x) (f : flat d = true) : Rd D' h' v d := by
  cases r with
  | none => exact .none
  | bool b => exact .bool b
  | int i t => exact .int i t
  | str x t q => exact .str x t (ht _ _ q)
  | list => cases f
  | tuple => cases f
/-- the new objects are let go, the new texts are not -/
theorem Aft.shed {D D' : Ad} {q : Pr} {h h' : Heap} {n n' : Nat} (a : Aft (D.or q) h n D' h' n') : Aft D h n ⟨D.p, D'.T, D'.n⟩ h' n' :=
  ⟨a.grown, fun _ q => q, fun _ q => .inl q, a.tsub, a.mono, fun o q => let ⟨o', q'⟩ := a.ok ⟨o.fn, o.ub, o.pos⟩ q; ⟨⟨o'.fn, o'.ub, o'.pos⟩, q'⟩⟩
theorem evs {c : Cx} {ρ : Nm} {e : Expr} {d : PD} (h : EvE c (dats ρ) e d) : EvS c ρ e d := fun A D s _ _ ok p f => h A D s (f.at ok p)
theorem evs2 {c : Cx} {ρ : Nm} {e : Expr} {d : PD} (h : EvE c (alls ρ) e d) (hf : flat d = true) : EvS c ρ e d := fun A D s _ _ ok p f _ _ k =>
  h A _ s (f.at2 ok p) _ _ fun v h' tk' D' a r => k v h' tk' ⟨D.p, D'.T, D'.n⟩ (Aft.shed a) (r.flat (fun _ _ q => q) hf)
theorem evts {c : Cx} {ρ : Nm} {e : Expr} {b : Bool} (h : EvT c (alls ρ) e b) : EvTS c ρ e b := fun A D s _ _ ok p f _ _ k =>
  h A _ s (f.at2 ok p) _ _ fun h' tk' D' a => k h' tk' ⟨D.p, D'.T, D'.n⟩ (Aft.shed a)

/-- a name of the frame that may be written -/
def Wr (c : Cx) (W : Pr) (x : Str) : Prop := (c.env.kindOf x = some .local ∧ (c.env.scope.kind == .class || (c.env.scope.kind == .module && c.env.locals != c.env.globals)) = false) ∨
  (c.env.kindOf x = some .cell ∧ c.env.scope.kind = .function ∧ ∃ k, c.env.cells.lookup x = some k ∧ W k)
/-- where statements stop -/
def Post (c : Cx) (W : Pr) (base : Heap) (pf : PF) (D : Ad) (h : Heap) (ρ : Nm) : Prop := match pf with | .ret _ => True | _ => FS c W base D h ρ
/-- statements, from the outside: what they do to the names -/
def EvSs (c : Cx) (W : Pr) (base : Heap) (ss : List Stmt) (ρ : Nm) (P : PF → Nm → Prop) : Prop := ∀ A D s (Q : Flow → Shared → Prop) (E : Value → Shared → Prop),
  Okk A c.dp c.un → Tk c.st D s.toks → FS c W base D s.heap ρ →
  (∀ fl pf ρ' h' tk' D', P pf ρ' → Aft3 W D s.heap s.toks D' h' tk' → Post c W base pf D' h' ρ' → FlR D' h' fl pf → Q fl { s with heap := h', toks := tk' }) →
  wpAny (model P0 c.w) A (execs ss c.env) Q E s
/-- one target, one value -/
def Asg (c : Cx) (W : Pr) (base : Heap) (t : Expr) (d : PD) (ρ ρ' : Nm) : Prop := ∀ A D s v (Q : Unit → Shared → Prop) (E : Value → Shared → Prop),
  Okk A c.dp c.un → Tk c.st D s.toks → FS c W base D s.heap ρ → Rd D s.heap v d →
  (∀ h' tk' D', Aft3 W D s.heap s.toks D' h' tk' → FS c W base D' h' ρ' → Q () { s with heap := h', toks := tk' }) → wpAny (model P0 c.w) A (assign t c.env v) Q E s

section
variable {c : Cx} {W : Pr} {base : Heap} {ρ : Nm} {P : PF → Nm → Prop}
theorem store {x : Str} (hx : Wr c W x) {A : Around} {D : Ad} {s : Shared} {v : Value} {z : Ent} {Q : Unit → Shared → Prop} {E : Value → Shared → Prop} (f : FS c W base D s.heap ρ) (r : EntAt W D s.heap v z)
    (k : ∀ h' tk', Aft3 W D s.heap s.toks D h' tk' → FS c W base D h' (upd ρ x z) → Q () { s with heap := h', toks := tk' }) : wpAny (model P0 c.w) A (storeName c.env x v) Q E s := by
  rcases hx with ⟨hk, hp⟩ | ⟨hk, hf, kk, hc, hw⟩
  · obtain ⟨m, n⟩ := f.ns
    refine wpAny_storeName_local hk n (fun h' n' hs => ?_) hp
    have z := f.store_local r n hk n' hs
    exact k h' _ (z.2 _ _ (Nat.le_succ _)) z.1
  · obtain ⟨v₀, o⟩ := f.cs _ _ hc
    refine wpAny_storeName_cell hf hk hc o (fun h' n' hs => ?_)
    have z := f.store_cell r hk hc hw n' hs
    exact k h' s.toks (z.2 _ _ (Nat.le_refl _)) z.1
theorem ss_nil (h : P .next ρ) : EvSs c W base [] ρ P := fun _ D s _ _ _ _ f k => wpAny_execs_nil (k .next .next ρ s.heap s.toks D h (Aft3.refl _ _ _) f trivial)
theorem ss_assign {x : Str} {p : Pos} {e : Expr} {pos : Pos} {rest : List Stmt} {d : PD} (hx : Wr c W x) (he : EvS c ρ e d) (hs : swapsWith e (some (.Name x p)) pos.line c.env = pure false) (h : EvSs c W base rest (upd ρ x (.dat d)) P) :
    EvSs c W base (.Assign [.Name x p] e pos :: rest) ρ P := by
  intro A D s Q E ok p₀ f k
  refine wpAny_execs_cons ?_
  refine wpAny_Assign_Name ?_ hs
  refine he A D s W base ok p₀ f _ _ fun v h₁ t₁ D₁ a₁ r₁ => ?_
  refine store hx (s := { s with heap := h₁, toks := t₁ }) (z := .dat d) (f.aft a₁) r₁ fun h₂ t₂ a₂ f₂ => ?_
  exact h A D₁ { s with heap := h₂, toks := t₂ } Q E ok (a₂.tk (p₀.aft a₁)) f₂ fun fl pf ρ' h₃ t₃ D₃ p a₃ f₃ fr => k fl pf ρ' h₃ t₃ D₃ p ((Aft.two a₁).trans (Aft3.trans a₂ a₃)) f₃ fr
theorem ss_aug (hk : c.env.scope.kind = .function) {x : Str} {p : Pos} {op : Operator} {e : Expr} {pos : Pos} {rest : List Stmt} {d₀ d₁ d : PD} (hx : Wr c W x) (h0 : ρ x = some (.dat d₀)) (he : EvS c ρ e d₁)
    (ho : Op2 c (inplaceOp op) d₀ d₁ d) (h : EvSs c W base rest (upd ρ x (.dat d)) P) (hn : (x == ("__classdict__" : Str)) = false := by rfl) : EvSs c W base (.AugAssign (.Name x p) op e pos :: rest) ρ P := by
  intro A D s Q E ok p₀ f k
  refine wpAny_execs_cons ?_
  refine wpAny_AugAssign_Name ?_
  obtain ⟨v₀, a₀, r₀⟩ := f.look x _ h0
  have go : wpAny (model P0 c.w) A (eval e c.env) (fun v s₂ => wpAny (model P0 c.w) A (inplaceOp op v₀ v) (fun r s₃ => wpAny (model P0 c.w) A (storeName c.env x r) (fun _ s₄ => wpAny (model P0 c.w) A (execs rest c.env) Q E s₄) E s₃) E s₂) E s := by
    refine he A D s W base ok p₀ f _ _ fun v h₁ t₁ D₁ a₁ r₁ => ?_
    have f₁ := f.aft a₁
    refine ho A D₁ { s with heap := h₁, toks := t₁ } v₀ v ok ⟨f₁.kt.grow f₁.gr, f₁.kd, f₁.dl, p₀.aft a₁⟩ (a₁.rd r₀) r₁ _ _ fun r h₂ t₂ D₂ a₂ r₂ => ?_
    refine store hx (s := { s with heap := h₂, toks := t₂ }) (z := .dat d) (f₁.aft a₂) r₂ fun h₃ t₃ a₃ f₃ => ?_
    exact h A D₂ { s with heap := h₃, toks := t₃ } Q E ok (a₃.tk ((p₀.aft a₁).aft a₂)) f₃ fun fl pf ρ' h₄ t₄ D₄ p a₄ f₄ fr => k fl pf ρ' h₄ t₄ D₄ p ((Aft.two a₁).trans ((Aft.two a₂).trans (Aft3.trans a₃ a₄))) f₄ fr
  rcases a₀ with ⟨kl, m, n, em⟩ | ⟨kl | kl, ce, el, o⟩
  · exact wpAny_loadName_local hk kl n em go
  · exact wpAny_loadName_cell hk kl el o go
  · exact wpAny_loadName_free hk kl el o go hn
theorem ss_if {t : Expr} {b1 b2 rest : List Stmt} {pos : Pos} {b : Bool} (ht : EvTS c ρ t b)
    (h1 : b = true → EvSs c W base b1 ρ (fun pf ρ' => match pf with | .next => EvSs c W base rest ρ' P | pf => P pf ρ'))
    (h2 : b = false → EvSs c W base b2 ρ (fun pf ρ' => match pf with | .next => EvSs c W base rest ρ' P | pf => P pf ρ')) : EvSs c W base (.If t b1 b2 pos :: rest) ρ P := by
  intro A D s Q E ok p₀ f k
  refine wpAny_execs_cons ?_
  refine wpAny_If ?_
  refine ht A D s W base ok p₀ f _ _ fun h₁ t₁ D₁ a₁ => ?_
  have f₁ := f.aft a₁
  cases b with
  | true =>
    refine h1 rfl A D₁ { s with heap := h₁, toks := t₁ } _ _ ok (p₀.aft a₁) f₁ ?_
    intro fl pf ρ' h' tk' D' p a f' fr
    have a' := (Aft.two (W := W) a₁).trans a
    cases pf with
    | next =>
      cases fl <;> simp only [FlR] at fr
      exact p A D' { s with heap := h', toks := tk' } Q E ok (a'.tk p₀) f' fun fl pf ρ'' h₃ t₃ D₃ p a₃ f₃ fr => k fl pf ρ'' h₃ t₃ D₃ p (a'.trans a₃) f₃ fr
    | brk => cases fl <;> simp only [FlR] at fr; exact k _ .brk ρ' h' tk' D' p a' f' trivial
    | cont => cases fl <;> simp only [FlR] at fr; exact k _ .cont ρ' h' tk' D' p a' f' trivial
    | ret d => cases fl <;> simp only [FlR] at fr; exact k _ (.ret d) ρ' h' tk' D' p a' f' fr
  | false =>
    refine h2 rfl A D₁ { s with heap := h₁, toks := t₁ } _ _ ok (p₀.aft a₁) f₁ ?_
    intro fl pf ρ' h' tk' D' p a f' fr
    have a' := (Aft.two (W := W) a₁).trans a
    cases pf with
    | next =>
      cases fl <;> simp only [FlR] at fr
      exact p A D' { s with heap := h', toks := tk' } Q E ok (a'.tk p₀) f' fun fl pf ρ'' h₃ t₃ D₃ p a₃ f₃ fr => k fl pf ρ'' h₃ t₃ D₃ p (a'.trans a₃) f₃ fr
    | brk => cases fl <;> simp only [FlR] at fr; exact k _ .brk ρ' h' tk' D' p a' f' trivial
    | cont => cases fl <;> simp only [FlR] at fr; exact k _ .cont ρ' h' tk' D' p a' f' trivial
    | ret d => cases fl <;> simp only [FlR] at fr; exact k _ (.ret d) ρ' h' tk' D' p a' f' fr
theorem ss_return {e : Expr} {pos : Pos} {rest : List Stmt} {d : PD} (he : EvS c ρ e d) (h : P (.ret d) ρ) : EvSs c W base (.Return (some e) pos :: rest) ρ P := by
  intro A D s Q E ok p₀ f k
  refine wpAny_execs_cons ?_
  refine wpAny_Return_some ?_
  exact he A D s W base ok p₀ f _ _ fun v h₁ t₁ D₁ a₁ r₁ => k (.ret v) (.ret d) ρ h₁ t₁ D₁ h (Aft.two a₁) trivial r₁
theorem ss_break {pos : Pos} {rest : List Stmt} (h : P .brk ρ) : EvSs c W base (.Break pos :: rest) ρ P := by
  intro A D s Q E ok p₀ f k
  refine wpAny_execs_cons ?_
  exact wpAny_Break (k .brk .brk ρ s.heap s.toks D h (Aft3.refl _ _ _) f trivial)
theorem ss_try {body : List Stmt} {h₀ : ExceptHandler} {hs : List ExceptHandler} {pos : Pos} {rest : List Stmt}
    (h : EvSs c W base body ρ (fun pf ρ' => match pf with | .next => EvSs c W base rest ρ' P | pf => P pf ρ')) : EvSs c W base (.Try body (h₀ :: hs) [] [] pos :: rest) ρ P := by
  intro A D s Q E ok p₀ f k
  refine wpAny_execs_cons ?_
  have e : exec (.Try body (h₀ :: hs) [] [] pos) c.env = (do standAt pos; tryStmt false (execs body c.env) (h₀ :: hs) (execs [] c.env) [] c.env) := rfl
  rw [e]
  refine wpAny_bind (wpAny_standAt (wpAny_tryStmt_except ?_))
  refine h A D s _ _ ok p₀ f ?_
  intro fl pf ρ' h' tk' D' p a f' fr
  cases pf with
  | next =>
    cases fl <;> simp only [FlR] at fr
    refine wpAny_execs_nil ?_
    exact p A D' { s with heap := h', toks := tk' } Q E ok (a.tk p₀) f' fun fl pf ρ'' h₃ t₃ D₃ p a₃ f₃ fr => k fl pf ρ'' h₃ t₃ D₃ p (a.trans a₃) f₃ fr
  | brk => cases fl <;> simp only [FlR] at fr; exact k _ .brk ρ' h' tk' D' p a f' trivial
  | cont => cases fl <;> simp only [FlR] at fr; exact k _ .cont ρ' h' tk' D' p a f' trivial
  | ret d => cases fl <;> simp only [FlR] at fr; exact k _ (.ret d) ρ' h' tk' D' p a f' fr
theorem ss_mono {ss : List Stmt} {P' : PF → Nm → Prop} (h : EvSs c W base ss ρ P) (hp : ∀ pf ρ', P pf ρ' → P' pf ρ') : EvSs c W base ss ρ P' :=
  fun A D s Q E ok p₀ f k => h A D s Q E ok p₀ f fun fl pf ρ' h' tk' D' p a f' fr => k fl pf ρ' h' tk' D' (hp _ _ p) a f' fr

/-- targets -/
theorem asg_name {x : Str} {p : Pos} {d : PD} (hx : Wr c W x) : Asg c W base (.Name x p) d ρ (upd ρ x (.dat d)) :=
  fun _ D _ _ _ _ _ _ f r k => wpAny_assign_Name (store (z := .dat d) hx f r fun h' tk' a f' => k h' tk' D a f')
/-- several targets in order -/
def Asgs (c : Cx) (W : Pr) (base : Heap) (ts : List Expr) (ds : List PD) (ρ ρ' : Nm) : Prop := ∀ A D s vs (Q : Unit → Shared → Prop) (E : Value → Shared → Prop),
  Okk A c.dp c.un → Tk c.st D s.toks → FS c W base D s.heap ρ → RdAll D s.heap vs ds →
  (∀ h' tk' D', Aft3 W D s.heap s.toks D' h' tk' → FS c W base D' h' ρ' → Q () { s with heap := h', toks := tk' }) → wpAny (model P0 c.w) A (assignInOrder ((assignEach ts c.env).map (·.2)) vs) Q E s
theorem asgs_nil : Asgs c W base [] [] ρ ρ := by
  intro A D s vs Q E ok p₀ f r k
  cases r
  exact wpAny_assignInOrder_none (k s.heap s.toks D (Aft3.refl _ _ _) f)
theorem asgs_cons {t : Expr} {ts : List Expr} {d : PD} {ds : List PD} {ρ₁ ρ₂ : Nm} (h1 : Asg c W base t d ρ ρ₁) (h2 : Asgs c W base ts ds ρ₁ ρ₂) (ht : assignEach (t :: ts) c.env = (false, assign t c.env) :: assignEach ts c.env) :
    Asgs c W base (t :: ts) (d :: ds) ρ ρ₂ := by
  intro A D s vs Q E ok p₀ f r k
  cases r with
  | cons r rs =>
    rw [ht, List.map_cons]
    refine wpAny_assignInOrder_more ?_
    refine h1 A D s _ _ _ ok p₀ f r fun h₁ t₁ D₁ a₁ f₁ => ?_
    exact h2 A D₁ { s with heap := h₁, toks := t₁ } _ Q E ok (a₁.tk p₀) f₁ (rs.aft3 f.off a₁) fun h₂ t₂ D₂ a₂ f₂ => k h₂ t₂ D₂ (a₁.trans a₂) f₂
theorem asg_tuple {ts : List Expr} {n : Nat} {p : Pos} {ds : List PD} {ρ' : Nm} (h : Asgs c W base ts ds ρ ρ') (hn : (assignEach ts c.env).length = ds.length) (hs : (assignEach ts c.env).findIdx? (·.1) = none) :
    Asg c W base (.Tuple ts n p) (.tuple ds) ρ ρ' := by
  intro A D s v Q E ok p₀ f r k
  cases r with
  | tuple da o rs =>
    rename_i a vs m
    refine wpAny_assign_Tuple ok.h ⟨_, o, rfl, m, rfl⟩ (by rw [hn, ← rs.length]; simp) hs fun h₁ hb => ?_
    have g : Grown s.heap h₁ := fun b o e => hb b o (Nat.ne_of_lt (Heap.lt_size e)) e
    exact h A D { s with heap := h₁ } _ Q E ok p₀ (f.aft (Aft.of_grown (n := 0) (n' := 0) g)) ((Aft.of_grown (n := 0) (n' := 0) g).rdAll rs) fun h₂ t₂ D₂ a₂ f₂ => k h₂ t₂ D₂ ((Aft.two (Aft.of_grown g)).trans a₂) f₂
end
end Mine
end

-- F4
section
open PySem PySem.W PyProof.Rows PySem.W.X PySem.Calls PySem.Spec PySem.SeqAt
set_option Elab.async false
set_option maxRecDepth 100000
set_option linter.unusedVariables false
namespace Mine
/-- an iterator I that gives the data ds one by one -/
structure Src (w : World) (A : Around) (t : Expr) (I : Addr) (wr : Pr) (ds : List PD) (St : Nat → Ad → Heap → Prop) : Prop where
  item : ∀ i d D (s : Shared) (X : Shared → Prop) (Y : Value → Shared → Prop) (E : Value → Shared → Prop), ds[i]? = some d → St i D s.heap →
    (∀ v h' tk' D', Rd D' h' v d → St (i + 1) D' h' → Aft2 wr D s.heap s.toks D' h' tk' → Y v { s with heap := h', toks := tk' }) →
    wpAny (model P0 w) A (pyNext (.ref I)) (fun r s₁ => match r with
      | none => X s₁
      | some v => wpAny (model P0 w) A (letOwnedTupleGo t (.ref I) v) (fun _ s₂ => Y v s₂) E s₁) E s
  done : ∀ D (s : Shared) (X : Shared → Prop) (Y : Value → Shared → Prop) (E : Value → Shared → Prop), St ds.length D s.heap →
    (∀ h' tk', s.toks ≤ tk' → (∀ b o, ¬ wr b → s.heap.get? b = some o → h'.get? b = some o) → X { s with heap := h', toks := tk' }) →
    wpAny (model P0 w) A (pyNext (.ref I)) (fun r s₁ => match r with
      | none => X s₁
      | some v => wpAny (model P0 w) A (letOwnedTupleGo t (.ref I) v) (fun _ s₂ => Y v s₂) E s₁) E s
  frame : ∀ i (D D' : Ad) h h', St i D h → (∀ a, D.p a → D'.p a) → (∀ t x, D.T t x → D'.T t x) → (∀ a o, D.p a ∨ wr a → h.get? a = some o → h'.get? a = some o) → (∀ a, wr a → ¬ D'.p a) → St i D' h'

/-- the same, of a plain iterator, whatever is done with its items -/
structure Src0 (w : World) (A : Around) (I : Addr) (wr : Pr) (ds : List PD) (St : Nat → Ad → Heap → Prop) : Prop where
  item : ∀ i d D (s : Shared) (Q : Option Value → Shared → Prop) (E : Value → Shared → Prop), ds[i]? = some d → St i D s.heap →
    (∀ v h' tk' D', Rd D' h' v d → St (i + 1) D' h' → Aft2 wr D s.heap s.toks D' h' tk' → Q (some v) { s with heap := h', toks := tk' }) → wpAny (model P0 w) A (pyNext (.ref I)) Q E s
  done : ∀ D (s : Shared) (Q : Option Value → Shared → Prop) (E : Value → Shared → Prop), St ds.length D s.heap →
    (∀ h' tk', s.toks ≤ tk' → (∀ b o, ¬ wr b → s.heap.get? b = some o → h'.get? b = some o) → Q none { s with heap := h', toks := tk' }) → wpAny (model P0 w) A (pyNext (.ref I)) Q E s
  frame : ∀ i (D D' : Ad) h h', St i D h → (∀ a, D.p a → D'.p a) → (∀ t x, D.T t x → D'.T t x) → (∀ a o, D.p a ∨ wr a → h.get? a = some o → h'.get? a = some o) → (∀ a, wr a → ¬ D'.p a) → St i D' h'
  plain : ∀ i D h, St i D h → ∃ o T vs, h.get? I = some o ∧ o.cls = .type T ∧ o.data = .fields vs ∧ (["enumerate", "zip", "dict_itemiterator", "dict_reverseitemiterator", "odict_iterator", "itertools.zip_longest", "itertools.pairwise"] : List String).contains T = false
  self : ∀ i D (s : Shared) (Q : Value → Shared → Prop) (E : Value → Shared → Prop), St i D s.heap → Q (.ref I) s → wpAny (model P0 w) A (pyIter (.ref I)) Q E s
/-- the targets that the loops here have -/
def GoT (t : Expr) : Prop := (∃ x p, t = .Name x p) ∨ ∃ ts n p, t = .Tuple ts n p
theorem go_plain {w : World} {A : Around} {t : Expr} (ht : GoT t) {I : Addr} {o : Obj} {s : Shared} {v : Value} {T : String} {vs : Array Value} {Q : Unit → Shared → Prop} {E : Value → Shared → Prop} (ho : s.heap.get? I = some o) (hc : o.cls = .type T) (hd : o.data = .fields vs)
    (hT : (["enumerate", "zip", "dict_itemiterator", "dict_reverseitemiterator", "odict_iterator", "itertools.zip_longest", "itertools.pairwise"] : List String).contains T = false) (q : Q () s) : wpAny (model P0 w) A (letOwnedTupleGo t (.ref I) v) Q E s := by
  rcases ht with ⟨x, p, rfl⟩ | ⟨ts, n, p, rfl⟩
  · exact wpAny_pure q
  · cases v with
    | ref a =>
      unfold letOwnedTupleGo
      refine wpAny_bind (wpAny_load ho ?_)
      rw [hc, hd]
      show wpAny _ A (if ((["enumerate", "zip", "dict_itemiterator", "dict_reverseitemiterator", "odict_iterator", "itertools.zip_longest", "itertools.pairwise"] : List String).contains T && vs[0]? == some (rawInt a)) = true then _ else _) Q E s
      rw [hT, Bool.false_and, if_neg (by decide)]
      exact wpAny_pure q
    | _ => exact wpAny_pure q
theorem Src0.src {w : World} {A : Around} {t : Expr} (ht : GoT t) {I : Addr} {wr : Pr} {ds : List PD} {St : Nat → Ad → Heap → Prop} (S : Src0 w A I wr ds St) : Src w A t I wr ds St where
  item := fun i d D s X Y E hd st k => S.item i d D s _ E hd st fun v h' tk' D' r st' a => by
    obtain ⟨o, T, vs, ho, hc, hdt, hT⟩ := S.plain _ _ _ st'
    exact go_plain ht (s := { s with heap := h', toks := tk' }) ho hc hdt hT (k v h' tk' D' r st' a)
  done := fun D s X Y E st k => S.done D s _ E st k
  frame := S.frame

/-- the iterable of a for -/
def EvI (c : Cx) (ρ : Str → Option PD) (t iter : Expr) (ds : List PD) : Prop := ∀ A D s (Q E : Value → Shared → Prop), At c A D s ρ →
  (∀ I wr St h' tk' D', Src c.w A t I wr ds St → St 0 D' h' → Aft D s.heap s.toks D' h' tk' → (∀ a, wr a → s.heap.get? a = none ∧ ¬ D'.p a ∧ ∃ o, h'.get? a = some o) → Q (.ref I) { s with heap := h', toks := tk' }) →
  wpAny (model P0 c.w) A (eval iter c.env) (fun xv s₁ => wpAny (model P0 c.w) A (pyIter xv) Q E s₁) E s

def EvI0 (c : Cx) (ρ : Str → Option PD) (iter : Expr) (ds : List PD) : Prop := ∀ A D s (Q E : Value → Shared → Prop), At c A D s ρ →
  (∀ I wr St h' tk' D', Src0 c.w A I wr ds St → St 0 D' h' → Aft D s.heap s.toks D' h' tk' → (∀ a, wr a → s.heap.get? a = none ∧ ¬ D'.p a ∧ ∃ o, h'.get? a = some o) → Q (.ref I) { s with heap := h', toks := tk' }) →
  wpAny (model P0 c.w) A (eval iter c.env) (fun xv s₁ => wpAny (model P0 c.w) A (pyIter xv) Q E s₁) E s
theorem EvI0.evI {c : Cx} {ρ : Str → Option PD} {t iter : Expr} {ds : List PD} (h : EvI0 c ρ iter ds) (ht : GoT t) : EvI c ρ t iter ds := fun A D s Q E a k =>
  h A D s Q E a fun I wr St h' tk' D' S => k I wr St h' tk' D' (S.src ht)

section
variable {c : Cx} {W : Pr} {base : Heap} {ρ : Nm} {P : PF → Nm → Prop}
theorem FS.wr {D D' : Ad} {h h' : Heap} {wr : Pr} (f : FS c W base D h ρ) (kept : ∀ b o, ¬ wr b → h.get? b = some o → h'.get? b = some o) (sub : ∀ a, D.p a → D'.p a) (ht : ∀ t x, D.T t x → D'.T t x) (fresh : ∀ a, D'.p a → D.p a ∨ (h.get? a = none ∧ ∃ o, h'.get? a = some o)) (hb : ∀ a, wr a → base.get? a = none ∧ ¬ D.p a ∧ ¬ W a) : FS c W base D' h' ρ := by
  have kp : ∀ b, W b → ∀ o, h.get? b = some o → h'.get? b = some o := fun b w o e => kept b o (fun q => (hb b q).2.2 w) e
  have kc : ∀ x k, c.env.cells.lookup x = some k → ∀ o, h.get? k = some o → h'.get? k = some o := fun x k e o eo => (f.wc x k e).elim (fun w => kp k w o eo) fun ⟨o', e'⟩ => kept k o (fun q => by rw [(hb k q).1] at e'; cases e') eo
  refine ⟨f.kt, fun b o e => kept b o (fun q => by rw [(hb b q).1] at e; cases e) (f.gr b o e), f.nw, f.off' fresh, fun b w => let ⟨o, e⟩ := f.ex b w; ⟨o, kp b w o e⟩, f.wl, f.wc, f.inj,
    let ⟨m, n⟩ := f.ns; ⟨m, n.at' fun o e => kp _ f.wl o e⟩, fun y k e => let ⟨v, o⟩ := f.cs y k e; ⟨v, ?_⟩, fun y d e => ?_, fun b o e => sub b (f.kd b o e), fun b q => (fresh b q).elim (fun q => let ⟨o, e⟩ := f.dl b q; ⟨o, kept b o (fun w => (hb b w).2.1 q) e⟩) fun q => q.2⟩
  · obtain ⟨o', e', d'⟩ := o; exact ⟨o', kc _ _ e _ e', d'⟩
  · obtain ⟨v, q, r⟩ := f.look y d e
    refine ⟨v, ?_, r.keep sub ht (fun b o q e => kept b o (fun w => (hb b w).2.1 q) e) fun b vs n w e => kp b w _ e⟩
    rcases q with ⟨k, m, n, em⟩ | ⟨k, cc, e1, o⟩
    · exact .inl ⟨k, m, n.at' fun o e => kp _ f.wl o e, em⟩
    · obtain ⟨o', e', d'⟩ := o; exact .inr ⟨k, cc, e1, o', kc _ _ e1 _ e', d'⟩
theorem ss_for {t iter : Expr} {body orelse rest : List Stmt} {pos : Pos} {ds : List PD} (hi : EvI c (dats ρ) t iter ds) (inv : Nat → Nm → Prop) (h0 : inv 0 ρ)
    (turn : ∀ i d ρ', ds[i]? = some d → inv i ρ' → ∃ ρ'', Asg c W base t d ρ' ρ'' ∧ EvSs c W base body ρ'' (fun pf ρ₃ => match pf with | .next | .cont => inv (i + 1) ρ₃ | .brk => EvSs c W base rest ρ₃ P | .ret d => P (.ret d) ρ₃))
    (done : ∀ ρ', inv ds.length ρ' → EvSs c W base orelse ρ' (fun pf ρ'' => match pf with | .next => EvSs c W base rest ρ'' P | pf => P pf ρ'')) (hs : ∀ x, foldedSetIterable iter c.env x = pure x) : EvSs c W base (.For t iter body orelse pos :: rest) ρ P := by
  intro A D s Q E ok p₀ f k
  refine wpAny_execs_cons ?_
  refine wpAny_For (hi A D s _ _ (f.at ok p₀) fun I wr St h₁ t₁ D₁ src st0 a₁ hw => ?_) hs
  have wb : ∀ a, wr a → base.get? a = none := fun a q => by
    cases e : base.get? a with
    | none => rfl
    | some o => have := f.gr a o e; rw [(hw a q).1] at this; cases this
  have wW : ∀ a, wr a → ¬ W a := fun a q w => by obtain ⟨o, e⟩ := f.ex a w; rw [(hw a q).1] at e; cases e
  refine codeAny_forLoop_any (fun n s' => ∃ i D' h' tk ρ', s' = { s with heap := h', toks := tk } ∧ n = ds.length + 1 - i ∧ i ≤ ds.length ∧ inv i ρ' ∧ St i D' h' ∧ Aft3 W D s.heap s.toks D' h' tk ∧ FS c W base D' h' ρ' ∧ (∀ a, wr a → ¬ D'.p a ∧ ∃ o, h'.get? a = some o)) ?_ (ds.length + 1)
    ⟨0, D₁, h₁, t₁, ρ, rfl, rfl, Nat.zero_le _, h0, st0, a₁.two, f.aft a₁, fun a q => (hw a q).2⟩
  rintro n s' ⟨i, D', h', tk, ρ', rfl, rfl, hi', hinv, st, a2, f', hw'⟩
  by_cases hlt : i < ds.length
  · refine src.item i ds[i] D' { s with heap := h', toks := tk } _ _ _ (by simp) st fun v h₂ t₂ D₂ r st' aw => ?_
    have f₂ : FS c W base D₂ h₂ ρ' := f'.wr aw.kept aw.sub aw.tsub aw.fresh fun a q => ⟨wb a q, (hw' a q).1, wW a q⟩
    have a2' : Aft3 W D s.heap s.toks D₂ h₂ t₂ := ⟨fun b o w e => aw.kept b o (fun q => by rw [(hw b q).1] at e; cases e) (a2.kept b o w e), fun b o e => let ⟨o', e'⟩ := a2.alive b o e; aw.alive b o' e',
      fun a q => aw.sub a (a2.sub a q), fun a q => (aw.fresh a q).elim (fun q => (a2.fresh a q).imp id (Or.imp id fun ⟨e, o, e'⟩ => ⟨e, aw.alive _ _ e'⟩)) fun ⟨q, o⟩ => .inr (.inr ⟨a2.none q, o⟩), fun t z q => aw.tsub t z (a2.tsub t z q), Nat.le_trans a2.mono aw.mono, fun o q => let ⟨o', q'⟩ := a2.ok o q; aw.ok o' q'⟩
    obtain ⟨ρ'', asg, bd⟩ := turn i ds[i] ρ' (by simp) hinv
    refine asg A D₂ { s with heap := h₂, toks := t₂ } v _ _ ok (a2'.tk p₀) f₂ r fun h₃ t₃ D₃ a₃ f₃ => ?_
    refine bd A D₃ { s with heap := h₃, toks := t₃ } _ _ ok (a₃.tk (a2'.tk p₀)) f₃ fun fl pf ρ₃ h₄ t₄ D₄ p a₄ f₄ fr => ?_
    have a34 : Aft3 W D₂ h₂ t₂ D₄ h₄ t₄ := a₃.trans a₄
    have tot : Aft3 W D s.heap s.toks D₄ h₄ t₄ := a2'.trans a34
    have off₄ : ∀ a, wr a → ¬ D₄.p a ∧ ∃ o, h₄.get? a = some o := fun a w => by
      obtain ⟨nd, o, e⟩ := hw' a w
      obtain ⟨o₂, e₂⟩ := aw.alive a o e
      refine ⟨fun q => ?_, a34.alive a o₂ e₂⟩
      rcases a34.fresh a q with q | q | ⟨q, _⟩
      · rcases aw.fresh a q with q | ⟨q, _⟩
        · exact nd q
        · rw [e] at q; cases q
      · exact wW a w q
      · rw [e₂] at q; cases q
    have again : inv (i + 1) ρ₃ → FS c W base D₄ h₄ ρ₃ → ∃ m, m < ds.length + 1 - i ∧ ∃ i D' h' tk ρ', ({ s with heap := h₄, toks := t₄ } : Shared) = { s with heap := h', toks := tk } ∧ m = ds.length + 1 - i ∧ i ≤ ds.length ∧ inv i ρ' ∧ St i D' h' ∧ Aft3 W D s.heap s.toks D' h' tk ∧ FS c W base D' h' ρ' ∧ (∀ a, wr a → ¬ D'.p a ∧ ∃ o, h'.get? a = some o) := fun q f₄ => by
      refine ⟨ds.length + 1 - (i + 1), by omega, i + 1, D₄, h₄, t₄, ρ₃, rfl, rfl, hlt, q, ?_, tot, f₄, fun a w => ?_⟩
      · refine src.frame (i + 1) D₂ D₄ h₂ h₄ st' a34.sub a34.tsub (fun a o q e => ?_) fun a w => (off₄ a w).1
        rcases q with q | q
        · exact a34.kept a o (f₂.off a q) e
        · exact a34.kept a o (wW a q) e
      · exact off₄ a w
    cases pf with
    | next => cases fl <;> simp only [FlR] at fr; exact again p f₄
    | cont => cases fl <;> simp only [FlR] at fr; exact again p f₄
    | brk =>
      cases fl <;> simp only [FlR] at fr
      exact p A D₄ { s with heap := h₄, toks := t₄ } Q E ok (tot.tk p₀) f₄ fun fl pf ρ' h' tk' D' p a f' fr => k fl pf ρ' h' tk' D' p (tot.trans a) f' fr
    | ret d => cases fl <;> simp only [FlR] at fr; exact k _ (.ret d) ρ₃ h₄ t₄ D₄ p tot trivial fr
  · obtain rfl : i = ds.length := by omega
    refine src.done D' { s with heap := h', toks := tk } _ _ _ st fun h₂ t₂ mo kp => ?_
    have f₂ : FS c W base D' h₂ ρ' := f'.wr kp (fun _ q => q) (fun _ _ q => q) (fun _ q => .inl q) fun a q => ⟨wb a q, (hw' a q).1, wW a q⟩
    have a2' : Aft3 W D s.heap s.toks D' h₂ t₂ := ⟨fun b o w e => kp b o (fun q => by rw [(hw b q).1] at e; cases e) (a2.kept b o w e), fun b o e => let ⟨o', e'⟩ := a2.alive b o e; ⟨o', kp b o' (fun q => by rw [(hw b q).1] at e; cases e) e'⟩, a2.sub, fun b q => (a2.fresh b q).imp id (Or.imp id fun ⟨e, o, e'⟩ => ⟨e, o, kp b o (fun w => (hw' b w).1 q) e'⟩), a2.tsub, Nat.le_trans a2.mono mo, fun o q => let ⟨o', q'⟩ := a2.ok o q; ⟨o', Nat.le_trans q' mo⟩⟩
    refine done ρ' hinv A D' { s with heap := h₂, toks := t₂ } _ _ ok (a2'.tk p₀) f₂ fun fl pf ρ'' h₃ t₃ D₃ p a₃ f₃ fr => ?_
    cases pf with
    | next =>
      cases fl <;> simp only [FlR] at fr
      exact p A D₃ { s with heap := h₃, toks := t₃ } Q E ok ((a2'.trans a₃).tk p₀) f₃ fun fl pf ρ' h' tk' D' p a f' fr => k fl pf ρ' h' tk' D' p (a2'.trans (Aft3.trans a₃ a)) f' fr
    | brk => cases fl <;> simp only [FlR] at fr; exact k _ .brk ρ'' h₃ t₃ D₃ p (a2'.trans a₃) f₃ trivial
    | cont => cases fl <;> simp only [FlR] at fr; exact k _ .cont ρ'' h₃ t₃ D₃ p (a2'.trans a₃) f₃ trivial
    | ret d => cases fl <;> simp only [FlR] at fr; exact k _ (.ret d) ρ'' h₃ t₃ D₃ p (a2'.trans a₃) trivial fr
end
end Mine
end

-- F5
section
open PySem PySem.W PyProof.Rows PySem.W.X PySem.Calls PySem.Spec PySem.SeqAt
set_option Elab.async false
set_option maxRecDepth 100000
set_option linter.unusedVariables false
namespace Mine
theorem mono_of {M : Model} {A : Around} {α : Type} {t : Sem α} {Q : α → Shared → Prop} {E : Value → Shared → Prop} {s : Shared} (h : wpAny M A t (fun v s' => s.toks ≤ s'.toks → Q v s') E s) : wpAny M A t Q E s :=
  wpAny_mono (wpAny_toks_of (n := s.toks) (Nat.le_refl _) h) (fun _ _ q => q.2 q.1) fun _ _ q => q.2
/-- a name of the top or of the built-ins: the value itself -/
def EvV (c : Cx) (e : Expr) (v : Value) : Prop := ∀ A s (Q : Value → Shared → Prop) (E : Value → Shared → Prop), KT c.w s.heap → Q v s → wpAny (model P0 c.w) A (eval e c.env) Q E s
structure FnEnv (env : Env) : Prop where
  k : env.scope.kind = .function
  g : env.globals = mainGlobals
  b : env.builtins = builtinsNs
section
variable {c : Cx} {W : Pr} {base : Heap} {ρ : Str → Option PD}
theorem ev_top {x : Str} {p : Pos} {v : Value} (fe : FnEnv c.env) (hx : c.env.kindOf x = some .globalImplicit) (e : nsIn (hd.heap_39 c.w.params) mainGlobals x = some (some v)) (hd : (x == ("__debug__" : Str)) = false) : EvV c (.Name x p) v := by
  intro A s Q E ⟨X, mean, mg, mb, T⟩ q
  exact Name_function_global fe.k hx (loadGlobal_global (mg := mg) (fe.g ▸ T.g) (mg_of X T.g e) q) hd
theorem ev_boot {x : Str} {p : Pos} {v : Value} (fe : FnEnv c.env) (hx : c.env.kindOf x = some .globalImplicit) (e : nsIn (hd.heap_39 c.w.params) mainGlobals x = some none) (hv : bootBuiltins x = some v) (hn : x ≠ "__name__") (hd : (x == ("__debug__" : Str)) = false) : EvV c (.Name x p) v := by
  intro A s Q E ⟨X, mean, mg, mb, T⟩ q
  exact Name_function_global fe.k hx (loadGlobal_builtin (mg := mg) (mb := mb) (fe.g ▸ T.g) (mg_none_of X T.g e) (fe.b ▸ T.b) ((T.builtins x hn).trans hv) q) hd

/-- a call of a value upon data -/
def Cal (c : Cx) (f : Value) (ds : List PD) (d : PD) : Prop := ∀ A D s vs, Okk A c.dp c.un → HS c D s → RdAll D s.heap vs ds → Val c.w A D s (call f vs) d
theorem ev_call_def {x : Str} {p pos : Pos} {f : Addr} {es : List Expr} {ds : List PD} {d : PD} (hf : EvV c (.Name x p) (.ref f)) (hk : keepIn (hd.heap_39 c.w.params) (.ref f) = true) (he : EvEs c ρ es ds) (hc : Cal c (.ref f) ds d)
    (hs : (es = [] ∧ ds = []) ∨ ∃ e r, es = e :: r ∧ starEach (e :: r) c.env = (false, eval e c.env) :: starEach r c.env ∧ (backTo pos (starEach r c.env)).any (·.1) = false) : EvE c ρ (.Call (.Name x p) es [] pos) d := by
  intro A D s a Q E k
  refine Call_ ?_
  refine hf A s _ _ a.hs.kt ?_
  have go : wpAny (model P0 c.w) A (spliced (backTo pos (starEach es c.env))) (fun vs s₁ => (hd.heap_39 c.w.params).In s₁.heap ∧ wpAny (model P0 c.w) A (call (.ref f) ([] ++ vs)) Q E s₁) E s := by
    refine he A D s pos a _ _ fun vs h₁ t₁ D₁ a₁ r₁ => ?_
    have a' : At c A D₁ { s with heap := h₁, toks := t₁ } ρ := a.aft a₁
    refine ⟨a'.hs.kt.1, ?_⟩
    rw [List.nil_append]
    exact hc A D₁ _ vs a.ok a'.hs r₁ _ _ fun v h₂ t₂ D₂ a₂ r₂ => k v h₂ t₂ D₂ (a₁.trans a₂) r₂
  rcases hs with ⟨rfl, rfl⟩ | ⟨e, r, rfl, h1, h2⟩
  · refine callWith_K0 a.hs.kt.1 hk ?_
    exact hc A D s [] a.ok a.hs .nil _ _ k
  · exact callWith_K a.hs.kt.1 hk go h1 h2
theorem ev_call_builtin {x : Str} {p pos : Pos} {id : String} {e : Expr} {es : List Expr} {ds : List PD} {d : PD} (hf : EvV c (.Name x p) (.builtin id)) (he : EvEs c ρ (e :: es) ds) (hc : Cal c (.builtin id) ds d)
    (h1 : starEach (e :: es) c.env = (false, eval e c.env) :: starEach es c.env) (h2 : (backTo pos (starEach es c.env)).any (·.1) = false) : EvE c ρ (.Call (.Name x p) (e :: es) [] pos) d := by
  intro A D s a Q E k
  refine Call_ ?_
  refine hf A s _ _ a.hs.kt ?_
  refine callWith_builtin1 ?_ h1 h2
  refine he A D s pos a _ _ fun vs h₁ t₁ D₁ a₁ r₁ => ?_
  have a' : At c A D₁ { s with heap := h₁, toks := t₁ } ρ := a.aft a₁
  exact hc A D₁ _ vs a.ok a'.hs r₁ _ _ fun v h₂ t₂ D₂ a₂ r₂ => k v h₂ t₂ D₂ (a₁.trans a₂) r₂
theorem ev_call_type {x : Str} {p pos : Pos} {T : String} {e : Expr} {es : List Expr} {ds : List PD} {d : PD} (hf : EvV c (.Name x p) (.type T)) (he : EvEs c ρ (e :: es) ds) (hc : Cal c (.type T) ds d)
    (h1 : starEach (e :: es) c.env = (false, eval e c.env) :: starEach es c.env) (h2 : (backTo pos (starEach es c.env)).any (·.1) = false) : EvE c ρ (.Call (.Name x p) (e :: es) [] pos) d := by
  intro A D s a Q E k
  refine Call_ ?_
  refine hf A s _ _ a.hs.kt ?_
  refine PyProof.Rows.callWith_type1 ?_ h1 h2
  refine he A D s pos a _ _ fun vs h₁ t₁ D₁ a₁ r₁ => ?_
  have a' : At c A D₁ { s with heap := h₁, toks := t₁ } ρ := a.aft a₁
  exact hc A D₁ _ vs a.ok a'.hs r₁ _ _ fun v h₂ t₂ D₂ a₂ r₂ => k v h₂ t₂ D₂ (a₁.trans a₂) r₂
/-- len -/
theorem cal_len_list {ds : List PD} (h : ds.length < 2 ^ 63) : Cal c (.builtin "len") [.list ds] (.int ds.length) := by
  intro A D s vs _ _ r Q E k
  cases r with
  | cons r rs =>
    cases rs
    cases r with
    | list da o r =>
      rename_i a us n
      have e : us.size = ds.length := by have := r.length; simpa using this
      exact call_len_list ⟨_, o, rfl, n, rfl⟩ (by rw [e]; omega) (k _ s.heap _ D (Aft.refl _ _) (by rw [e]; exact .int _ _))
theorem cal_len_str {x : Str} (h : x.length < 2 ^ 63) : Cal c (.builtin "len") [.str x] (.int x.length) := by
  intro A D s vs _ _ r Q E k
  cases r with
  | cons r rs =>
    cases rs
    cases r
    exact PyProof.Rows.len_str (by omega) (k _ s.heap _ D (Aft.refl _ _) (.int _ _))

theorem src_list {w : World} {A : Around} (hh : A.handled = none) {I ax : Addr} {its : Array Value} {ds : List PD} (hne : ax ≠ I) :
    Src0 w A I (fun a => a = I) ds (fun i D h => (h.IsListIter I ax i ∧ h.IsList ax its) ∧ D.p ax ∧ ¬ D.p I ∧ RdAll D h its.toList ds) where
  item := by
    rintro i d D s Q E hd ⟨st, dax, dI, r⟩ k
    have W := Walks.list (prog := P0) (w := w) hh I ax hne its
    obtain ⟨v₀, hv, rv⟩ := r.get hd
    have hi : i < its.size := by have := (List.getElem?_eq_some_iff.mp hv).1; simpa using this
    refine mono_of (W.item i s _ E hi st fun v h' tk hP st' kp mo => ?_)
    have ev : v = v₀ := by rw [Array.getElem?_toList] at hv; rw [hP] at hv; exact Option.some.inj hv
    subst ev
    obtain ⟨o, ho, hc, hdt⟩ := id st'.1
    have kp' : ∀ a o, D.p a → s.heap.get? a = some o → D.p a ∧ h'.get? a = some o := fun a o q e => ⟨q, kp a o (by simpa using fun z : a = I => dI (z ▸ q)) e⟩
    refine k v h' tk D (rv.keep kp' fun _ _ q => q) ⟨st', dax, dI, r.keep kp' fun _ _ q => q⟩ ⟨fun b o q e => kp b o (by simpa using q) e, fun b o e => ?_, fun _ q => q, fun _ q => .inl q, fun _ _ q => q, mo, fun o q => ⟨o, Nat.le_trans q mo⟩⟩
    by_cases q : b = I
    · subst q; exact ⟨_, ho⟩
    · exact ⟨o, kp b o (by simpa using q) e⟩
  done := by
    rintro D s Q E ⟨st, dax, dI, r⟩ k
    have W := Walks.list (prog := P0) (w := w) hh I ax hne its
    have hn : ds.length = its.size := by have := r.length; simpa using this.symm
    rw [hn] at st
    exact mono_of (W.done s _ E st fun h' tk kp mo => k h' tk mo fun b o q e => kp b o (by simpa using q) e)
  frame := by
    rintro i D D' h h' ⟨st, dax, dI, r⟩ sub tsub kp off
    exact ⟨⟨st.1.at fun o e => kp I o (.inr rfl) e, st.2.at fun o e => kp ax o (.inl dax) e⟩, sub _ dax, off I rfl, r.keep (fun a o q e => ⟨sub a q, kp a o (.inl q) e⟩) tsub⟩
  plain := fun i D h ⟨st, _⟩ => let ⟨o, ho, hc, hdt⟩ := st.1; ⟨o, _, _, ho, hc, hdt, by decide⟩
  self := fun i D s Q E ⟨st, _⟩ q => (Walks.list (prog := P0) (w := w) hh I ax hne its).self i s Q E st q
theorem src_tuple {w : World} {A : Around} (hh : A.handled = none) {I ax : Addr} {its : Array Value} {ds : List PD} (hne : ax ≠ I) :
    Src0 w A I (fun a => a = I) ds (fun i D h => (h.IsTupleIter I ax i ∧ h.IsTuple ax its) ∧ D.p ax ∧ ¬ D.p I ∧ RdAll D h its.toList ds) where
  item := by
    rintro i d D s Q E hd ⟨st, dax, dI, r⟩ k
    have W := Walks.tuple (prog := P0) (w := w) hh I ax hne its
    obtain ⟨v₀, hv, rv⟩ := r.get hd
    have hi : i < its.size := by have := (List.getElem?_eq_some_iff.mp hv).1; simpa using this
    refine mono_of (W.item i s _ E hi st fun v h' tk hP st' kp mo => ?_)
    have ev : v = v₀ := by rw [Array.getElem?_toList] at hv; rw [hP] at hv; exact Option.some.inj hv
    subst ev
    obtain ⟨o, ho, hc, hdt⟩ := id st'.1
    have kp' : ∀ a o, D.p a → s.heap.get? a = some o → D.p a ∧ h'.get? a = some o := fun a o q e => ⟨q, kp a o (by simpa using fun z : a = I => dI (z ▸ q)) e⟩
    refine k v h' tk D (rv.keep kp' fun _ _ q => q) ⟨st', dax, dI, r.keep kp' fun _ _ q => q⟩ ⟨fun b o q e => kp b o (by simpa using q) e, fun b o e => ?_, fun _ q => q, fun _ q => .inl q, fun _ _ q => q, mo, fun o q => ⟨o, Nat.le_trans q mo⟩⟩
    by_cases q : b = I
    · subst q; exact ⟨_, ho⟩
    · exact ⟨o, kp b o (by simpa using q) e⟩
  done := by
    rintro D s Q E ⟨st, dax, dI, r⟩ k
    have W := Walks.tuple (prog := P0) (w := w) hh I ax hne its
    have hn : ds.length = its.size := by have := r.length; simpa using this.symm
    rw [hn] at st
    exact mono_of (W.done s _ E st fun h' tk kp mo => k h' tk mo fun b o q e => kp b o (by simpa using q) e)
  frame := by
    rintro i D D' h h' ⟨st, dax, dI, r⟩ sub tsub kp off
    exact ⟨⟨st.1.at fun o e => kp I o (.inr rfl) e, st.2.at fun o e => kp ax o (.inl dax) e⟩, sub _ dax, off I rfl, r.keep (fun a o q e => ⟨sub a q, kp a o (.inl q) e⟩) tsub⟩
  plain := fun i D h ⟨st, _⟩ => let ⟨o, ho, hc, hdt⟩ := st.1; ⟨o, _, _, ho, hc, hdt, by decide⟩
  self := fun i D s Q E ⟨st, _⟩ q => (Walks.tuple (prog := P0) (w := w) hh I ax hne its).self i s Q E st q
theorem src_range {w : World} {A : Around} (hh : A.handled = none) {I : Addr} {a c : Int} {n : Nat} :
    Src0 w A I (fun b => b = I) ((List.range n).map fun i => PyData.int (a + (i : Nat) * c)) (fun i D h => IsRangeIter h I (a + (i : Nat) * c) ((n : Int) - (i : Nat)) c ∧ ¬ D.p I) where
  item := by
    rintro i d D s Q E hd ⟨st, dI⟩ k
    have W := Walks.range (prog := P0) (w := w) hh I a c n
    have hi : i < n := by
      have := (List.getElem?_eq_some_iff.mp hd).1; simpa using this
    refine mono_of (W.item i s _ E hi st fun v h' tk hP st' kp mo => ?_)
    obtain ⟨t, rfl⟩ := hP
    have ed : d = .int (a + (i : Nat) * c) := by
      rw [List.getElem?_map, List.getElem?_range hi] at hd
      simpa using hd.symm
    subst ed
    refine k _ h' tk D (.int _ _) ⟨by simpa using st', dI⟩ ⟨fun b o q e => kp b o (by simpa using q) e, fun b o e => ?_, fun _ q => q, fun _ q => .inl q, fun _ _ q => q, mo, fun o q => ⟨o, Nat.le_trans q mo⟩⟩
    by_cases q : b = I
    · subst q; exact ⟨_, st'⟩
    · exact ⟨o, kp b o (by simpa using q) e⟩
  done := by
    rintro D s Q E ⟨st, dI⟩ k
    have W := Walks.range (prog := P0) (w := w) hh I a c n
    rw [List.length_map, List.length_range] at st
    exact mono_of (W.done s _ E st fun h' tk kp mo => k h' tk mo fun b o q e => kp b o (by simpa using q) e)
  frame := by
    rintro i D D' h h' ⟨st, dI⟩ sub tsub kp off
    exact ⟨kp I _ (.inr rfl) st, off I rfl⟩
  plain := fun i D h ⟨st, _⟩ => ⟨_, _, _, st, rfl, rfl, by decide⟩
  self := fun i D s Q E ⟨st, _⟩ q => (Walks.range (prog := P0) (w := w) hh I a c n).self i s Q E (by simpa using st) q
theorem ei_list {iter : Expr} {ds : List PD} (he : EvE c ρ iter (.list ds)) : EvI0 c ρ iter ds := by
  intro A D s Q E a k
  refine he A D s a _ _ fun v h₁ t₁ D₁ a₁ r₁ => ?_
  cases r₁ with
  | list da o r =>
    rename_i ax its n
    refine wpAny_pyIter_list (items := its) ⟨_, o, rfl, n, rfl⟩ ?_
    have hlt : ax < h₁.objs.size := Heap.lt_size o
    have dI : ¬ D₁.p h₁.objs.size := fun q => by obtain ⟨o, e⟩ := (a.hs.aft (s' := { s with heap := h₁, toks := t₁ }) a₁).dl _ q; rw [size_fresh] at e; cases e
    exact k _ _ _ _ t₁ D₁ (src_list a.ok.h (I := h₁.objs.size) (ax := ax) (its := its) (Nat.ne_of_lt hlt))
        ⟨⟨⟨_, Heap.get?_push_size _ rfl, rfl, rfl⟩, ⟨_, Heap.get?_push_of_some _ o, rfl, n, rfl⟩⟩, da, dI, (Aft.push_off (D := D₁) (n := 0) _).rdAll r⟩
        (a₁.trans (Aft.push_off _)) fun b q => by subst q; exact ⟨a₁.grown.none (size_fresh h₁), dI, _, Heap.get?_push_size _ rfl⟩
theorem ei_tuple {iter : Expr} {ds : List PD} (he : EvE c ρ iter (.tuple ds)) : EvI0 c ρ iter ds := by
  intro A D s Q E a k
  refine he A D s a _ _ fun v h₁ t₁ D₁ a₁ r₁ => ?_
  cases r₁ with
  | tuple da o r =>
    rename_i ax its n
    refine wpAny_pyIter_tuple (items := its) ⟨_, o, rfl, n, rfl⟩ ?_
    have hlt : ax < h₁.objs.size := Heap.lt_size o
    have dI : ¬ D₁.p h₁.objs.size := fun q => by obtain ⟨o, e⟩ := (a.hs.aft (s' := { s with heap := h₁, toks := t₁ }) a₁).dl _ q; rw [size_fresh] at e; cases e
    exact k _ _ _ _ t₁ D₁ (src_tuple a.ok.h (I := h₁.objs.size) (ax := ax) (its := its) (Nat.ne_of_lt hlt))
        ⟨⟨⟨_, Heap.get?_push_size _ rfl, rfl, rfl⟩, ⟨_, Heap.get?_push_of_some _ o, rfl, n, rfl⟩⟩, da, dI, (Aft.push_off (D := D₁) (n := 0) _).rdAll r⟩
        (a₁.trans (Aft.push_off _)) fun b q => by subst q; exact ⟨a₁.grown.none (size_fresh h₁), dI, _, Heap.get?_push_size _ rfl⟩
/-- range(n) -/
theorem ei_range {y : Str} {p' pos : Pos} {e : Expr} {n : Nat} (hf : EvV c (.Name y p') (.type "range")) (he : EvE c ρ e (.int n)) (hsz : Builtin.Range.rangeSize 0 (n : Int) 1 = (n : Int)) (hsm : Builtin.Range.small 0 (n : Int) 1 = true)
    (h1 : starEach [e] c.env = (false, eval e c.env) :: starEach [] c.env) : EvI0 c ρ (.Call (.Name y p') [e] [] pos) ((List.range n).map fun (i : Nat) => PyData.int i) := by
  intro A D s Q E a k
  refine Call_ ?_
  refine hf A s _ _ a.hs.kt ?_
  refine PyProof.Rows.callWith_type1 ?_ h1 rfl
  refine args_cons ?_ h1
  refine he A D s a _ _ fun v h₁ t₁ D₁ a₁ r₁ => ?_
  refine args_nil ?_
  cases r₁
  refine call_range_1 ?_
  refine wpAny_pyIter_range (IsRange.new _ _ _ _ _ _ _) hsm ?_
  rw [hsz]
  generalize hro : ({ cls := .type "range", data := .fields #[.int 0 t₁, .int (n : Int) _, .int 1 (t₁ + 1)] } : Obj) = ro
  have dI : ¬ D₁.p (h₁.push ro).objs.size := fun q => by
    obtain ⟨o, e⟩ := (a.hs.aft (s' := { s with heap := h₁.push ro, toks := t₁ }) (a₁.trans (Aft.push_off ro))).dl _ q; rw [size_fresh] at e; cases e
  have src := src_range (w := c.w) a.ok.h (I := (h₁.push ro).objs.size) (a := 0) (c := 1) (n := n)
  simp only [Int.zero_add, Int.mul_one] at src
  refine k _ _ _ _ _ D₁ src ⟨?_, dI⟩ ((a₁.trans ((Aft.push_off ro).trans (Aft.push_off _))).later) fun b q => ?_
  · have z : ((h₁.push ro).push { cls := .type "range_iterator", data := .fields #[rawInt 0, rawInt (n : Int), rawInt 1] }).get? (h₁.push ro).objs.size = some { cls := .type "range_iterator", data := .fields #[rawInt 0, rawInt (n : Int), rawInt 1] } := Heap.get?_push_size _ rfl
    simpa using z
  · subst q
    exact ⟨a₁.grown.none ((Aft.push_off (D := D₁) (n := 0) ro).grown.none (size_fresh _)), dI, _, Heap.get?_push_size _ rfl⟩
end
end Mine
end

-- F6
section
open PySem PySem.W PyProof.Rows PySem.W.X PySem.Calls PySem.Spec PySem.SeqAt
set_option Elab.async false
set_option maxRecDepth 100000
set_option linter.unusedVariables false
namespace Mine
section
variable {c : Cx} {ρ : Str → Option PD}
/-- an item of a thing -/
def GetI (c : Cx) (a i d : PD) : Prop := ∀ A D s va vi, Okk A c.dp c.un → Rd D s.heap va a → Rd D s.heap vi i →
  (∃ T id, s.TypeIs va T ∧ typeLookup (.type T) "__getitem__" = pure (some (.builtin id))) ∧ Val c.w A D s (getItem va vi) d
theorem ev_item {value slice : Expr} {pos : Pos} {a i d : PD} (h1 : EvE c ρ value a) (h2 : EvE c ρ slice i) (hs : ∀ o i, subscripted slice false o i = operate [o, i] (getItem o i)) (hg : GetI c a i d) : EvE c ρ (.Subscript value slice pos) d := by
  intro A D s h Q E k
  refine Subscript_ (ev_two (t := subscriptTail value slice) h h1 h2 ?_ k)
  intro A D s va vi ok _ ra ri Q E k
  obtain ⟨⟨T, id, hT, hl⟩, hv⟩ := hg A D s va vi ok ra ri
  exact tail_any hT hl (hv Q E k) (hs va vi)
theorem gi_list {xs : List PD} {i : Nat} {d : PD} (e : xs[i]? = some d) (hi : i < 2 ^ 63) : GetI c (.list xs) (.int i) d := by
  intro A D s va vi _ ra ri
  cases ra with
  | list da o r =>
    rename_i a vs n
    cases ri
    obtain ⟨v, hv, rv⟩ := r.get e
    have hl : s.heap.IsList a vs := ⟨_, o, rfl, n, rfl⟩
    refine ⟨⟨_, _, hl.typeIs, slot_list_getitem.lookup⟩, fun Q E k => ?_⟩
    exact wpAny_getItem_list hl (by omega) (by omega) (by rw [← Array.getElem?_toList]; exact hv) (k v s.heap s.toks D (Aft.refl _ _) rv)
theorem gi_tuple {xs : List PD} {i : Nat} {d : PD} (e : xs[i]? = some d) (hi : i < 2 ^ 63) : GetI c (.tuple xs) (.int i) d := by
  intro A D s va vi _ ra ri
  cases ra with
  | tuple da o r =>
    rename_i a vs n
    cases ri
    obtain ⟨v, hv, rv⟩ := r.get e
    have hl : IsTup s.heap a vs := ⟨_, o, rfl, n, rfl⟩
    have hlt : i < vs.size := by have := (List.getElem?_eq_some_iff.mp hv).1; simpa using this
    refine ⟨⟨_, _, hl.typeIs, slot_tuple_getitem.lookup⟩, fun Q E k => ?_⟩
    refine getItem_tuple hl (by omega) (by omega) (j := i) ?_ (by rw [← Array.getElem?_toList]; exact hv) (k v s.heap s.toks D (Aft.refl _ _) rv)
    unfold seqIndex?
    have h0 : ¬ ((i : Int) < 0) := by omega
    simp only [h0, if_false]
    rw [if_pos (by simp only [Bool.and_eq_true, decide_eq_true_eq]; omega)]
    simp
theorem gi_str {x : Str} {i : Int} {ch : Nat} (e : (seqIndex? i x.length).bind (x.cps[·]?) = some ch) (hi : (decide (i < -(2 ^ 63 : Int)) || decide (i ≥ 2 ^ 63)) = false) : GetI c (.str x) (.int i) (.str ⟨#[ch]⟩) := by
  intro A D s va vi _ ra ri
  cases ra; cases ri
  exact ⟨⟨_, _, typeIs_str _ _ _, F.slot_str_getitem.lookup⟩, fun Q E k => PyProof.Rows.getItem_str hi e (k _ s.heap _ _ (Aft.mint _ _ _ _) rd_mint)⟩

/-- a part of a slice -/
def EvP (c : Cx) (ρ : Str → Option PD) (x : Option Expr) (i : Option Int) : Prop := ∀ A D s, At c A D s ρ → ∀ (Q E : Value → Shared → Prop),
  (∀ v h' tk' D' l, Aft D s.heap s.toks D' h' tk' → IsPart v i → v = partValue l → l.map (·.1) = i → Q v { s with heap := h', toks := tk' }) → wpAny (model P0 c.w) A (evalPart x c.env) Q E s
theorem ep_none : EvP c ρ none none := fun _ D s _ _ _ k => by rw [evalPart_none]; exact wpAny_pure (k _ s.heap s.toks D none (Aft.refl _ _) .none rfl rfl)
theorem ep_some {e : Expr} {i : Int} (h : EvE c ρ e (.int i)) : EvP c ρ (some e) (some i) := by
  intro A D s a Q E k
  rw [evalPart_some]
  refine h A D s a _ _ fun v h₁ t₁ D₁ a₁ r₁ => ?_
  cases r₁
  exact k _ h₁ t₁ D₁ (some (i, _)) a₁ (.int _ _) rfl rfl
def pick {α : Type} (xs : List α) (lo hi st : Option Int) : List α :=
  (sliceRange (sliceBounds lo hi st xs.length).1 (sliceBounds lo hi st xs.length).2.1 (sliceBounds lo hi st xs.length).2.2).filterMap (xs[·]?)
theorem RdAll.pickIdx {D : Ad} {h : Heap} {vs : List Value} {ds : List PD} (r : RdAll D h vs ds) : ∀ is : List Nat, RdAll D h (is.filterMap (vs[·]?)) (is.filterMap (ds[·]?))
  | [] => .nil
  | i :: is => by
    rw [List.filterMap_cons, List.filterMap_cons]
    cases e : ds[i]? with
    | none =>
      have e' : vs[i]? = none := by rw [List.getElem?_eq_none_iff] at e ⊢; rw [r.length]; exact e
      rw [e']
      exact r.pickIdx is
    | some d =>
      obtain ⟨v, hv, rv⟩ := r.get e
      rw [hv]
      exact .cons rv (r.pickIdx is)
theorem RdAll.pick {D : Ad} {h : Heap} {vs : Array Value} {ds : List PD} (r : RdAll D h vs.toList ds) (lo hi st : Option Int) : RdAll D h (slicePick vs lo hi st).toList (Mine.pick ds lo hi st) := by
  have e : vs.size = ds.length := by have := r.length; simpa using this
  unfold slicePick Mine.pick
  rw [e]
  have z : (fun i : Nat => vs[i]?) = fun i => vs.toList[i]? := by funext i; rw [Array.getElem?_toList]
  rw [z]
  exact r.pickIdx _
theorem ev_slice_list {value : Expr} {l u st : Option Expr} {p pos : Pos} {xs ys : List PD} {lo hi stp : Option Int} (h1 : EvE c ρ value (.list xs)) (hl : EvP c ρ l lo) (hu : EvP c ρ u hi) (hst : EvP c ρ st stp) (h0 : stp ≠ some 0) (hsz : xs.length ≤ sizeLine)
    (e : pick xs lo hi stp = ys) : EvE c ρ (.Subscript value (.Slice l u st p) pos) (.list ys) := by
  subst e
  intro A D s a Q E k
  refine Subscript_ ?_
  refine h1 A D s a _ _ fun va h₁ t₁ D₁ a₁ r₁ => ?_
  have A₁ : At c A D₁ { s with heap := h₁, toks := t₁ } ρ := a.aft a₁
  refine wpAny_Slice ?_
  refine hl A D₁ _ A₁ _ _ fun vl h₂ t₂ D₂ _ a₂ pl _ _ => ?_
  have A₂ : At c A D₂ { s with heap := h₂, toks := t₂ } ρ := A₁.aft (s' := { s with heap := h₂, toks := t₂ }) a₂
  refine hu A D₂ _ A₂ _ _ fun vu h₃ t₃ D₃ _ a₃ pu _ _ => ?_
  have A₃ : At c A D₃ { s with heap := h₃, toks := t₃ } ρ := A₂.aft (s' := { s with heap := h₃, toks := t₃ }) a₃
  refine hst A D₃ _ A₃ _ _ fun vs h₄ t₄ D₄ _ a₄ ps _ _ => ?_
  have a14 : Aft D₁ h₁ t₁ D₄ h₄ t₄ := Aft.trans a₂ (Aft.trans a₃ a₄)
  have r₄ := a14.rd r₁
  cases r₄ with
  | list da o r =>
    rename_i ax its n
    have hlst : h₄.IsList ax its := ⟨_, o, rfl, n, rfl⟩
    have sz : its.size = xs.length := by have := r.length; simpa using this
    have fin : wpAny (model P0 c.w) A (getItem (.ref ax) (.ref h₄.objs.size)) Q E { s with heap := h₄.push { cls := .type "slice", data := .fields #[vl, vu, vs] }, toks := t₄ } := by
      refine wpAny_getItem_list_slice (hlst.push _) (Heap.IsSliceOf.new ..) pl pu ps h0 ?_ (by rw [sz]; exact hsz)
      refine k _ _ t₄ _ (a₁.trans (a14.trans ((Aft.push_off _).trans (Aft.push _)))) ?_
      refine .list (.inr rfl) (Heap.get?_push_size _ rfl) ?_
      exact (Aft.push (n := 0) _).rdAll ((Aft.push_off (D := D₄) (n := 0) _).rdAll (r.pick lo hi stp))
    cases st with
    | none => exact tail_any (hlst.push _).typeIs slot_list_getitem.lookup (ops := [.ref h₄.objs.size, .ref ax]) fin rfl
    | some e => exact tail_any (hlst.push _).typeIs slot_list_getitem.lookup (ops := [.ref ax, .ref h₄.objs.size]) fin rfl
/-- a run of a text -/
def pickStr (x : Str) (lo hi : Option Int) : Str :=
  if ((Builtin.Str.strSliceIndices lo hi 1 x.length).length == x.length) = true then x else ⟨((Builtin.Str.strSliceIndices lo hi 1 x.length).filterMap (x.cps[·]?)).toArray⟩
theorem ev_slice_str {value : Expr} {l u : Option Expr} {p pos : Pos} {x y : Str} {lo hi : Option Int} (h1 : EvE c ρ value (.str x)) (hl : EvP c ρ l lo) (hu : EvP c ρ u hi) (hsz : (pickStr x lo hi).length ≤ sizeLine)
    (e : pickStr x lo hi = y) : EvE c ρ (.Subscript value (.Slice l u none p) pos) (.str y) := by
  subst e
  intro A D s a Q E k
  refine Subscript_ ?_
  refine h1 A D s a _ _ fun va h₁ t₁ D₁ a₁ r₁ => ?_
  have A₁ : At c A D₁ { s with heap := h₁, toks := t₁ } ρ := a.aft a₁
  refine wpAny_Slice ?_
  refine hl A D₁ _ A₁ _ _ fun vl h₂ t₂ D₂ ll a₂ _ el il => ?_
  have A₂ : At c A D₂ { s with heap := h₂, toks := t₂ } ρ := A₁.aft (s' := { s with heap := h₂, toks := t₂ }) a₂
  refine hu A D₂ _ A₂ _ _ fun vu h₃ t₃ D₃ lu a₃ _ eu iu => ?_
  rw [evalPart_none]
  refine wpAny_pure ?_
  cases r₁ with
  | str _ t qt =>
    subst el eu
    refine tail_any (typeIs_str _ _ _) F.slot_str_getitem.lookup (ops := [.ref h₃.objs.size, .str x t]) ?_ rfl
    refine wpAny_getItem_str_slice (l := ll) (u := lu) (st := none) ⟨_, Heap.get?_push_size _ rfl, rfl, rfl⟩ rfl ?_
    have ht : Aft D₁ h₁ t₁ D₃ (h₃.push { cls := .type "slice", data := .fields #[partValue ll, partValue lu, partValue none] }) t₃ := Aft.trans a₂ (Aft.trans a₃ (Aft.push_off _))
    have ev : ∀ t' tk' D', Aft D₃ (h₃.push { cls := .type "slice", data := .fields #[partValue ll, partValue lu, partValue none] }) t₃ D' (h₃.push { cls := .type "slice", data := .fields #[partValue ll, partValue lu, partValue none] }) tk' → D'.T t' (pickStr x lo hi) → Q (.str (pickStr x lo hi) t') { s with heap := h₃.push { cls := .type "slice", data := .fields #[partValue ll, partValue lu, partValue none] }, toks := tk' } := fun t' tk' D' a' q => k _ _ tk' D' (a₁.trans (ht.trans a')) (.str _ _ q)
    unfold sliceMade
    have e1 : slicePicked x ll lu none = Builtin.Str.strSliceIndices lo hi 1 x.length := by unfold slicePicked; rw [il, iu]; rfl
    have e2 : (((none : Option (Int × Tok)).map (·.1)).getD 1 == 1) = true := rfl
    rw [e1, e2, Bool.true_and]
    unfold pickStr at ev hsz
    by_cases q : ((Builtin.Str.strSliceIndices lo hi 1 x.length).length == x.length) = true
    · rw [if_pos q]; rw [if_pos q] at ev; exact ev _ _ D₃ (Aft.refl _ _) (ht.tsub _ _ qt)
    · rw [if_neg q]; rw [if_neg q] at ev hsz; exact ⟨hsz, ev _ _ _ (Aft.mint _ _ _ _) (.inr ⟨rfl, rfl⟩)⟩
end
end Mine
end

-- F7
section
open PySem PySem.W PyProof.Rows PySem.W.X PySem.Calls PySem.Spec PySem.SeqAt
set_option Elab.async false
set_option maxRecDepth 100000
set_option linter.unusedVariables false
namespace Mine
/-- entering a def: its names, its cells -/
theorem enterD {w : World} {d u : Nat} {s : Shared} {Q E : Value → Shared → Prop} {mean : ExcName → Option Value} {mg mb : Str → Option Value} {name qual : Str} {params : Arguments} {body : List Stmt} {scope : Scope} {dV kV doc pm cdv ct oc : Value} {an od : Option Addr} {osl : Array (Option Value)} {f : Addr} {vs : List Value} {binds : List (Str × Value)}
    (X : (hd.heap_39 w.params).In s.heap) (T : Top hd.view_39 LS mean mg mb s.heap)
    (ho : (hd.heap_39 w.params).lookup f = some ⟨oc, od, .func (fnOf name qual params body scope dV kV doc pm an cdv ct), osl⟩) (hcd : codeIn (hd.heap_39 w.params) cdv qual = true)
    (hroom : (AG d u).depth < recursionLimit)
    (hbind : BindsTo s (fnOf name qual params body scope dV kV doc pm an cdv ct) ⟨vs, []⟩ binds)
    (hkind : (binds.all fun y => scope.names.lookup y.1 == some .local || scope.names.lookup y.1 == some .cell) = true)
    (h : ∀ h₁ tk, s.toks ≤ tk → InCallC s s.heap.objs.size (bindL (envOfC qual scope s.heap.objs.size f cdv).kindOf binds fun _ => none) (cellsFrom (s.heap.objs.size + 1) scope.names []) (bindC (envOfC qual scope s.heap.objs.size f cdv).kindOf binds fun _ => none) { s with heap := h₁, toks := tk } →
      wpAny (model P0 w) ((AG d u).deeper (envOfC qual scope s.heap.objs.size f cdv)) (execs body (envOfC qual scope s.heap.objs.size f cdv))
        (fun fl s' => Q (match fl with | .ret v => v | _ => .none) s') (fun _ _ => False)
        { s with heap := h₁, toks := tk })
    (hco : scope.isCoroutine = false) (hgen : scope.isGenerator = false) (hk : scope.kind = .function) :
    wpAny (model P0 w) (AG d u) (call (.ref f) vs) Q E s := by
  refine wpAny_call ?_
  refine codeAny_call_function hroom (X _ _ ho) rfl hco hgen rfl (codeRec_of X hcd) (hbind _ _ _ _ ?_)
  refine mono_of (wpAny_newFunctionEnv_cells hk (kindsX hkind _) fun env' he s' x mo => ?_)
  subst he
  refine ⟨T.nolimit.keeps x.toInCall.keep, codeAny_func ?_⟩
  obtain ⟨h₁, tk, rfl, _⟩ := x.done
  exact wpAny_mono (h h₁ tk mo x) (fun fl s' hl => hl) fun _ _ y => y.elim

/-- what a frame may write: its names and its cells -/
def Wf (env : Env) : Pr := fun a => a = env.locals ∨ ∃ x, env.cells.lookup x = some a
inductive BindR (D : Ad) (h : Heap) : List (Str × Value) → List (Str × PD) → Prop
  | nil : BindR D h [] []
  | cons {x v d bs ds} : Rd D h v d → BindR D h bs ds → BindR D h ((x, v) :: bs) ((x, d) :: ds)
theorem BindR.zip {D : Ad} {h : Heap} : ∀ {xs : List Str} {vs : List Value} {ds : List PD}, RdAll D h vs ds → BindR D h (xs.zip vs) (xs.zip ds)
  | [], _, _, _ => .nil
  | x :: xs, _, _, .nil => .nil
  | x :: xs, _, _, .cons r rs => .cons r (BindR.zip rs)
def bindsD : List (Str × PD) → Nm → Nm
  | [], ρ => ρ
  | (x, d) :: r, ρ => bindsD r (upd ρ x (.dat d))
theorem bindL_rel {D : Ad} {h : Heap} {kd : Str → Option NameKind} : ∀ {bs : List (Str × Value)} {ds : List (Str × PD)}, BindR D h bs ds → ∀ {m : Str → Option Value} {ρ : Nm},
    (∀ y e, ρ y = some e → kd y = some .local → ∃ v d, e = .dat d ∧ m y = some v ∧ Rd D h v d) → ∀ y e, bindsD ds ρ y = some e → kd y = some .local → ∃ v d, e = .dat d ∧ bindL kd bs m y = some v ∧ Rd D h v d
  | _, _, .nil, m, ρ, g => g
  | _, _, .cons (x := x) (v := v) (d := d) r rs, m, ρ, g => by
    refine bindL_rel rs fun y e q k => ?_
    by_cases z : y = x
    · subst z
      simp only [upd, if_true] at q
      cases q
      rw [if_pos k]
      exact ⟨v, d, rfl, by simp, r⟩
    · simp only [upd, if_neg z] at q
      obtain ⟨v', d', e1, e2, e3⟩ := g y e q k
      refine ⟨v', d', e1, ?_, e3⟩
      split
      · simp only [if_neg z]; exact e2
      · exact e2
theorem bindC_rel {D : Ad} {h : Heap} {kd : Str → Option NameKind} : ∀ {bs : List (Str × Value)} {ds : List (Str × PD)}, BindR D h bs ds → ∀ {m : Str → Option Value} {ρ : Nm},
    (∀ y e, ρ y = some e → kd y ≠ some .local → ∃ v d, e = .dat d ∧ m y = some v ∧ Rd D h v d) → ∀ y e, bindsD ds ρ y = some e → kd y ≠ some .local → ∃ v d, e = .dat d ∧ bindC kd bs m y = some v ∧ Rd D h v d
  | _, _, .nil, m, ρ, g => g
  | _, _, .cons (x := x) (v := v) (d := d) r rs, m, ρ, g => by
    refine bindC_rel rs fun y e q k => ?_
    by_cases z : y = x
    · subst z
      simp only [upd, if_true] at q
      cases q
      rw [if_neg k]
      exact ⟨v, d, rfl, by simp, r⟩
    · simp only [upd, if_neg z] at q
      obtain ⟨v', d', e1, e2, e3⟩ := g y e q k
      refine ⟨v', d', e1, ?_, e3⟩
      split
      · exact e2
      · simp only [if_neg z]; exact e2
theorem bindsD_mem {ds : List (Str × PD)} : ∀ {ρ : Nm} {y e}, bindsD ds ρ y = some e → (∃ d, (y, d) ∈ ds) ∨ ρ y = some e := by
  induction ds with
  | nil => intro ρ y e q; exact .inr q
  | cons p r ih =>
    obtain ⟨x, d⟩ := p
    intro ρ y e q
    rcases ih (ρ := upd ρ x (.dat d)) q with ⟨d', z⟩ | z
    · exact .inl ⟨d', List.mem_cons_of_mem _ z⟩
    · by_cases q' : y = x
      · subst q'; exact .inl ⟨d, by simp⟩
      · simp only [upd, if_neg q'] at z; exact .inr z
theorem lookup_mem : ∀ {cs : List (Str × Addr)} {x : Str} {k : Addr}, cs.lookup x = some k → (x, k) ∈ cs := by
  intro cs
  induction cs with
  | nil => intro x k e; cases e
  | cons p r ih =>
    intro x k e
    obtain ⟨n, c⟩ := p
    rw [List.lookup_cons] at e
    cases q : x == n with
    | true => rw [q] at e; cases e; rw [beq_iff_eq.mp q]; simp
    | false => rw [q] at e; exact List.mem_cons_of_mem _ (ih e)
theorem lookup_apart : ∀ {cs : List (Str × Addr)}, cs.Pairwise (fun x y => x.2 ≠ y.2) → ∀ {x y : Str} {k : Addr}, cs.lookup x = some k → cs.lookup y = some k → x = y := by
  intro cs
  induction cs with
  | nil => intro _ x y k e; cases e
  | cons p r ih =>
    intro hp x y k e e'
    obtain ⟨n, c⟩ := p
    rw [List.pairwise_cons] at hp
    have mem : ∀ {z}, r.lookup z = some k → ∃ q ∈ r, q.2 = k := fun {z} e => ⟨(z, k), lookup_mem e, rfl⟩
    rw [List.lookup_cons] at e e'
    cases q : x == n with
    | true =>
      rw [q] at e
      cases q' : y == n with
      | true => exact (beq_iff_eq.mp q).trans (beq_iff_eq.mp q').symm
      | false =>
        rw [q'] at e'
        cases e
        obtain ⟨q, m, e⟩ := mem e'
        exact absurd e.symm (hp.1 q m)
    | false =>
      rw [q] at e
      cases q' : y == n with
      | true =>
        rw [q'] at e'
        cases e'
        obtain ⟨q, m, e⟩ := mem e
        exact absurd e.symm (hp.1 q m)
      | false => rw [q'] at e'; exact ih hp.2 e e'
/-- the start of a frame -/
theorem FS.start {w : World} {dp un : Nat} {D : Ad} {s : Shared} {f : Addr} {qual : Str} {scope : Scope} {cdv : Value} {vs : List Value} {ds : List PD} {xs : List Str} {h₁ : Heap} {tk : Nat}
    {b : Bool} (hs : KT w s.heap) (hkd : KD w D) (hdl : ∀ a, D.p a → ∃ o, s.heap.get? a = some o) (r : RdAll D s.heap vs ds)
    (hkind : (xs.all fun y => scope.names.lookup y == some .local || (scope.names.lookup y == some .cell && ((cellsFrom (s.heap.objs.size + 1) scope.names []).lookup y).isSome)) = true)
    (x : InCallC s s.heap.objs.size (bindL (envOfC qual scope s.heap.objs.size f cdv).kindOf (xs.zip vs) fun _ => none) (cellsFrom (s.heap.objs.size + 1) scope.names []) (bindC (envOfC qual scope s.heap.objs.size f cdv).kindOf (xs.zip vs) fun _ => none) { s with heap := h₁, toks := tk }) :
    FS ⟨w, dp, un, envOfC qual scope s.heap.objs.size f cdv, b⟩ (Wf (envOfC qual scope s.heap.objs.size f cdv)) s.heap D h₁ (bindsD (xs.zip ds) fun _ => none) := by
  have gr : Grown s.heap h₁ := x.toInCall.keep
  have nocell : ∀ y k, (cellsFrom (s.heap.objs.size + 1) scope.names []).lookup y = some k → s.heap.get? k = none := fun y k e => by
    have := x.above y k (lookup_mem e)
    cases q : s.heap.get? k with
    | none => rfl
    | some o => exact absurd (Heap.lt_size q) (Nat.lt_asymm this)
  refine ⟨hs, gr, fun a q => ?_, fun a q w => ?_, fun a q => ?_, .inl rfl, fun y k e => .inl (.inr ⟨y, e⟩), fun y z k e e' => lookup_apart x.apart e e', ⟨_, x.toInCall.ns⟩, fun y k e => ⟨_, x.cell y k e⟩, fun y e q => ?_, hkd, fun a q => let ⟨o, e⟩ := hdl a q; ⟨o, gr _ _ e⟩⟩
  · rcases q with rfl | ⟨y, e⟩
    · exact size_fresh _
    · exact nocell y a e
  · obtain ⟨o, e⟩ := hdl a q
    rcases w with rfl | ⟨y, e'⟩
    · rw [show (envOfC qual scope s.heap.objs.size f cdv).locals = s.heap.objs.size from rfl, size_fresh] at e; cases e
    · rw [nocell y a e'] at e; cases e
  · rcases q with rfl | ⟨y, e⟩
    · obtain ⟨o, _, _, e, _⟩ := x.toInCall.ns; exact ⟨o, e⟩
    · obtain ⟨o, e, _⟩ := x.cell y a e; exact ⟨o, e⟩
  · have br : BindR D h₁ (xs.zip vs) (xs.zip ds) := BindR.zip ((Aft.of_grown (D := D) (n := 0) (n' := 0) gr).rdAll r)
    have my : y ∈ xs := by
      rcases bindsD_mem q with ⟨d, m⟩ | z
      · exact (List.of_mem_zip m).1
      · cases z
    have hy := (List.all_eq_true.mp hkind) y my
    rw [Bool.or_eq_true, Bool.and_eq_true] at hy
    rcases hy with hy | ⟨hy, hc⟩
    · have kl : (envOfC qual scope s.heap.objs.size f cdv).kindOf y = some .local := beq_iff_eq.mp hy
      obtain ⟨v, d, rfl, e2, e3⟩ := bindL_rel br (kd := (envOfC qual scope s.heap.objs.size f cdv).kindOf) (m := fun _ => none) (ρ := fun _ => none) (fun _ _ e => by cases e) y e q kl
      exact ⟨v, .inl ⟨kl, _, x.toInCall.ns, e2⟩, e3⟩
    · have kl : (envOfC qual scope s.heap.objs.size f cdv).kindOf y = some .cell := beq_iff_eq.mp hy
      obtain ⟨v, d, rfl, e2, e3⟩ := bindC_rel br (kd := (envOfC qual scope s.heap.objs.size f cdv).kindOf) (m := fun _ => none) (ρ := fun _ => none) (fun _ _ e => by cases e) y e q (by rw [kl]; simp)
      obtain ⟨k, hk⟩ := Option.isSome_iff_exists.mp hc
      exact ⟨v, .inr ⟨.inl kl, k, hk, e2 ▸ x.cell y k hk⟩, e3⟩
/-- from a frame's body to its call -/
theorem aft3_call {W : Pr} {D D' : Ad} {g h h' : Heap} {m n n' : Nat} (mn : m ≤ n) (gr : Grown g h) (nw : ∀ a, W a → g.get? a = none) (ex : ∀ a, W a → ∃ o, h.get? a = some o) (x : Aft3 W D h n D' h' n') : Aft D g m D' h' n' :=
  ⟨fun b o e => x.kept b o (fun w => by rw [nw b w] at e; cases e) (gr b o e), x.sub, fun a q => (x.fresh a q).elim .inl fun q => .inr (q.elim (fun w => ⟨nw a w, let ⟨o, e⟩ := ex a w; x.alive a o e⟩) fun ⟨e, o⟩ => ⟨gr.none e, o⟩), x.tsub, Nat.le_trans mn x.mono, fun o q => x.ok o (Nat.le_trans q mn)⟩
theorem cal_def {c : Cx} {name qual : Str} {params : Arguments} {body : List Stmt} {scope : Scope} {dV kV doc pm cdv ct oc : Value} {an od : Option Addr} {osl : Array (Option Value)} {f : Addr} {xs : List Str} {ds : List PD} {d : PD}
    (ho : (hd.heap_39 c.w.params).lookup f = some ⟨oc, od, .func (fnOf name qual params body scope dV kV doc pm an cdv ct), osl⟩) (hcd : codeIn (hd.heap_39 c.w.params) cdv qual = true)
    (hroom : c.dp < recursionLimit)
    (hn : xs.length = ds.length)
    (hbind : ∀ s vs, vs.length = xs.length → BindsTo s (fnOf name qual params body scope dV kV doc pm an cdv ct) ⟨vs, []⟩ (xs.zip vs))
    (hkind : ∀ n : Nat, (xs.all fun y => scope.names.lookup y == some .local || (scope.names.lookup y == some .cell && ((cellsFrom (n + 1) scope.names []).lookup y).isSome)) = true)
    (hco : scope.isCoroutine = false) (hgen : scope.isGenerator = false) (hk : scope.kind = .function)
    (h : ∀ L base, EvSs ⟨c.w, c.dp + 1, c.un + 3, envOfC qual scope L f cdv, c.st⟩ (Wf (envOfC qual scope L f cdv)) base body (bindsD (xs.zip ds) fun _ => none) (fun pf _ => pf = .ret d)) : Cal c (.ref f) ds d := by
  intro A D s vs ok hs r Q E k
  refine wpAny_AG (d := c.dp) (u := c.un) ?_ ok.h ok.g ok.d ok.u
  obtain ⟨X, mean, mg, mb, T⟩ := hs.kt
  refine enterD X T ho hcd hroom (hbind s vs (by rw [hn, ← r.length])) ?_ (fun h₁ tk mo x => ?_) hco hgen hk
  · rw [List.all_eq_true]
    intro p hp
    have := (List.all_eq_true.mp (hkind 0)) p.1 (List.of_mem_zip (a := p.1) (b := p.2) hp).1
    rw [Bool.or_eq_true] at this ⊢
    rw [Bool.and_eq_true] at this
    exact this.imp id (·.1)
  have F := FS.start (dp := c.dp + 1) (un := c.un + 3) (b := c.st) hs.kt hs.kd hs.dl r (hkind _) x
  refine h _ _ _ D { s with heap := h₁, toks := tk } _ _ ⟨rfl, Nat.le_refl _, Nat.le_refl _, rfl⟩ ⟨fun e => let ⟨o, q⟩ := hs.tk.1 e; ⟨o, Nat.le_trans q mo⟩, hs.tk.2⟩ F ?_
  intro fl pf ρ' h' tk' D' hp a3 _ fr
  subst hp
  cases fl <;> simp only [FlR] at fr
  exact k _ h' tk' D' (aft3_call mo F.gr F.nw F.ex a3) fr
end Mine
end

-- F8
section
open PySem PySem.W PyProof.Rows PySem.W.X PySem.Calls PySem.Spec PySem.SeqAt
set_option Elab.async false
set_option maxRecDepth 100000
set_option linter.unusedVariables false
namespace Mine
def ClOk (env : Env) (scope : Scope) : List (Str × Addr) → Prop
  | [] => True
  | p :: r => env.cells.lookup p.1 = some p.2 ∧ ((relabel scope env).names.lookup p.1 = some .cell ∨ (relabel scope env).names.lookup p.1 = some .free) ∧ (env.kindOf p.1 == some .local) = false ∧ ClOk env scope r
theorem ClOk.get {env : Env} {scope : Scope} : ∀ {cl : List (Str × Addr)}, ClOk env scope cl → ∀ {y k}, cl.lookup y = some k → env.cells.lookup y = some k ∧ ((relabel scope env).names.lookup y = some .cell ∨ (relabel scope env).names.lookup y = some .free) ∧ (env.kindOf y == some .local) = false
  | [], _, _, _, e => by cases e
  | p :: r, h, y, k, e => by
    obtain ⟨n, a⟩ := p
    rw [List.lookup_cons] at e
    cases q : y == n with
    | true => rw [q] at e; cases e; rw [beq_iff_eq.mp q]; exact ⟨h.1, h.2.1, h.2.2.1⟩
    | false => rw [q] at e; exact ClOk.get h.2.2.2 e
structure CompOk (env : Env) (scope : Scope) (cl : List (Str × Addr)) (x : Str) : Prop where
  clos : closureFor scope env = pure cl
  cell : ∀ y ∈ scope.names, y.2 ≠ .cell
  kind : scope.kind = .function
  names : ∀ y ∈ scope.names, y.2 = .local → scope.names.lookup y.1 = some .local
  x : scope.names.lookup x = some .local
  cl : ClOk env scope cl
/-- the names that a comprehension sees of the frame around it -/
def seen (cl : List (Str × Addr)) (x : Str) (ρ : Str → Option PD) : Nm := fun y => if y = x then none else if (cl.lookup y).isSome then (ρ y).map .dat else none
theorem seen_dat {cl : List (Str × Addr)} {x y : Str} {ρ : Str → Option PD} {e : Ent} (q : seen cl x ρ y = some e) : ∃ d, e = .dat d := by
  unfold seen at q
  by_cases z : y = x
  · rw [if_pos z] at q; cases q
  · rw [if_neg z] at q
    by_cases z : (cl.lookup y).isSome = true
    · rw [if_pos z] at q
      cases e' : ρ y with
      | none => rw [e'] at q; cases q
      | some d => rw [e'] at q; cases q; exact ⟨d, rfl⟩
    · rw [if_neg z] at q; cases q
abbrev Cx.comp (c : Cx) (scope : Scope) (cl : List (Str × Addr)) (C : Addr) : Cx := ⟨c.w, c.dp, c.un, compEnvC scope cl C c.env, c.st⟩
theorem FS.less {c : Cx} {W : Pr} {base : Heap} {D : Ad} {h : Heap} {ρ ρ' : Nm} (f : FS c W base D h ρ) (hr : ∀ y e, ρ' y = some e → ρ y = some e) : FS c W base D h ρ' :=
  { f with look := fun y e q => f.look y e (hr y e q) }
/-- the tests of a clause -/
def EvTs (c : Cx) (ρ : Str → Option PD) (ifs : List Expr) (b : Bool) : Prop := ∀ A D s, At c A D s ρ →
  Tst c.w A D s (forIn ifs true fun e r => if r = true then do let ok ← isTrue e c.env (eval e c.env); pure (ForInStep.yield ok) else pure (ForInStep.yield r)) b
theorem ets_nil {c : Cx} {ρ : Str → Option PD} : EvTs c ρ [] true := fun A D s _ _ _ k => wpAny_tests_nil (k s.heap s.toks D (Aft.refl _ _))
theorem ets_one {c : Cx} {ρ : Str → Option PD} {e : Expr} {b : Bool} (h : EvT c ρ e b) : EvTs c ρ [e] b := fun A D s a _ _ k => wpAny_tests_one (h A D s a _ _ k)

/-- writing a list that the frame owns -/
theorem FS.list_write {c : Cx} {W : Pr} {base : Heap} {D : Ad} {h h' : Heap} {ρ : Nm} {b : Addr} {vs : Array Value} {n : Nat} {o' : Obj} (f : FS c W base D h ρ) (w : W b) (ho : h.get? b = some ⟨.type "list", none, .seq vs n, #[]⟩) (hn : h'.get? b = some o')
    (hs : ∀ a o, a ≠ b → h.get? a = some o → h'.get? a = some o) (hρ : ∀ y xs, ρ y ≠ some (.own b xs)) : FS c W base D h' ρ ∧ (∀ k₁ k₂, k₁ ≤ k₂ → Aft3 W D h k₁ D h' k₂) := by
  have kp : ∀ a o, a ≠ b → h.get? a = some o → h'.get? a = some o := hs
  have al : ∀ a o, h.get? a = some o → ∃ o', h'.get? a = some o' := fun a o e => by
    by_cases q : a = b
    · subst q; exact ⟨_, hn⟩
    · exact ⟨o, kp a o q e⟩
  have nl : c.env.locals ≠ b := by
    rintro q
    obtain ⟨m, o, es, ep, e1, d1, _⟩ := f.ns
    rw [q, ho] at e1; cases e1; cases d1
  have nc : ∀ x k, c.env.cells.lookup x = some k → k ≠ b := by
    rintro x k e q
    obtain ⟨v, o, e1, d1⟩ := f.cs x k e
    rw [q, ho] at e1; cases e1; cases d1
  have Dk : ∀ a o, D.p a → h.get? a = some o → h'.get? a = some o := fun a o q e => kp a o (fun z => f.off a q (z ▸ w)) e
  refine ⟨⟨f.kt, fun a o e => kp a o (fun q => by rw [q, f.nw b w] at e; cases e) (f.gr a o e), f.nw, f.off, fun a q => let ⟨o, e⟩ := f.ex a q; al a o e, f.wl, f.wc, f.inj, let ⟨m, n⟩ := f.ns; ⟨m, n.at' fun o e => kp _ o nl e⟩,
    fun x k e => let ⟨v, o, e1, d1⟩ := f.cs x k e; ⟨v, o, kp k o (nc x k e) e1, d1⟩, fun x e q => ?_, f.kd, fun a q => let ⟨o, e⟩ := f.dl a q; ⟨o, Dk a o q e⟩⟩, fun k₁ k₂ m => ⟨fun a o q e => kp a o (fun z => q (z ▸ w)) e, al, fun _ q => q, fun _ q => .inl q, fun _ _ q => q, m, fun o q => ⟨o, Nat.le_trans q m⟩⟩⟩
  obtain ⟨v, va, r⟩ := f.look x e q
  refine ⟨v, ?_, ?_⟩
  · rcases va with ⟨k, m, n, em⟩ | ⟨k, cc, e1, o, e2, d2⟩
    · exact .inl ⟨k, m, n.at' fun o e => kp _ o nl e, em⟩
    · exact .inr ⟨k, cc, e1, o, kp _ o (nc x cc e1) e2, d2⟩
  · cases e with
  | dat d => exact Rd.keep (fun a o q e => ⟨q, Dk a o q e⟩) (fun _ _ q => q) r    | own a xs =>
      obtain ⟨rfl, wa, vs', n', o, r⟩ := r
      exact ⟨rfl, wa, vs', n', kp _ _ (fun z => hρ x xs (z ▸ q)) o, r.keep (fun a o q e => ⟨q, Dk a o q e⟩) fun _ _ q => q⟩
/-- list.append, as a call -/
theorem append_call {w : World} {A : Around} {s : Shared} {l : Addr} {vs : Array Value} {n : Nat} {v : Value} {Q E : Value → Shared → Prop} (hl : s.heap.get? l = some ⟨.type "list", none, .seq vs n, #[]⟩) (hsz : vs.size ≤ sizeLine)
    (k : ∀ h' n', h'.get? l = some ⟨.type "list", none, .seq (vs.push v) n', #[]⟩ → (∀ b, b ≠ l → h'.get? b = s.heap.get? b) → Q .none { s with heap := h' }) : wpAny (model P0 w) A (call (.builtin "list.append") [.ref l, v]) Q E s :=
  call_meets F.slot_list_append ⟨_, hl, rfl⟩ F.entry_list_append (F.args_list_append_2 _ _) (list_append l vs n v hsz)
    ⟨hl, k _ _ (IsL.update (f := fun xs => xs.push v) hl) fun b q => Heap.get?_update_other _ _ (Ne.symm q)⟩

theorem Aft3.step {W wr : Pr} {D D' D'' : Ad} {h h' h'' : Heap} {n n' n'' : Nat} (x : Aft3 W D h n D' h' n') (y : Aft2 wr D' h' n' D'' h'' n'') (wb : ∀ a, wr a → h.get? a = Option.none) : Aft3 W D h n D'' h'' n'' :=
  ⟨fun b o w e => y.kept b o (fun q => by rw [wb b q] at e; cases e) (x.kept b o w e), fun b o e => let ⟨o', e'⟩ := x.alive b o e; y.alive b o' e', fun a q => y.sub a (x.sub a q),
    fun a q => (y.fresh a q).elim (fun q => (x.fresh a q).imp id (Or.imp id fun ⟨e, o, e'⟩ => ⟨e, y.alive _ _ e'⟩)) fun ⟨q, o⟩ => .inr (.inr ⟨x.none q, o⟩), fun t z q => y.tsub t z (x.tsub t z q), Nat.le_trans x.mono y.mono, fun o q => let ⟨o', q'⟩ := x.ok o q; y.ok o' q'⟩
theorem comp_block {c : Cx} {ρ : Str → Option PD} {elt iter : Expr} {x : Str} {px : Pos} {ifs : List Expr} {scope : Scope} {cl : List (Str × Addr)} {pos : Pos} {ds : List PD} (f : PD → PD) (p : PD → Bool)
    (ck : CompOk c.env scope cl x) (hi : EvI0 c ρ iter ds) (hsz : ds.length ≤ sizeLine)
    (ht : ∀ d C, d ∈ ds → EvTs (c.comp scope cl C) (dats (upd (seen cl x ρ) x (.dat d))) ifs (p d))
    (he : ∀ d C, d ∈ ds → p d = true → EvE (c.comp scope cl C) (dats (upd (seen cl x ρ) x (.dat d))) elt (f d))
    {A : Around} {D : Ad} {s : Shared} (a : At c A D s ρ) {RR : Value → Addr → Result → Shared → Prop} {E : Value → Shared → Prop}
    (k : ∀ v C h' tk' D' m', Aft D s.heap s.toks D' h' tk' → Rd D' h' v (.list ((ds.filter p).map f)) → s.heap.get? C = none → ¬ D'.p C → h'.Ns C m' → RR v C (.ok .next) { s with heap := h', toks := tk' }) :
    wpAny (model P0 c.w) A (eval iter c.env) (fun xv s₁ => wpAny (model P0 c.w) A (pyIter xv) (fun it s₂ => wpAny (model P0 c.w) A (newList []) (fun acc s₃ => wpAny (model P0 c.w) A (newFunctionEnv scope c.env.globals cl [] c.env.qual none .none (some c.env)) (fun cenv s₄ =>
      codeAny (model P0 c.w) A (.compStart (.ListComp elt [⟨.Name x px, iter, ifs, 0⟩] scope pos) 0 it acc { cenv with scope := relabel scope c.env }) (RR acc cenv.locals) s₄) E s₃) E s₂) E s₁) E s := by
  refine hi A D s _ _ a fun I wr St h₁ t₁ D₁ src st0 a₁ hw => ?_
  refine wpAny_newObj_type (wpAny_newFunctionEnv ck.cell (by intro y hy; simp at hy) (fun h₂ hns hsb => ?_) ck.kind)
  dsimp only at hns hsb ⊢
  have A₁ : At c A D₁ { s with heap := h₁, toks := t₁ } ρ := a.aft a₁
  generalize hHA : h₁.push { cls := .type "list", dict := none, data := .seq ([] : List Value).toArray } = hA at hns hsb ⊢
  have hC : hA.objs.size = h₁.objs.size + 1 := by rw [← hHA, Heap.size_push]
  generalize hac : h₁.objs.size = ac at *
  have frC : h₁.get? hA.objs.size = none := by
    cases q : h₁.get? hA.objs.size with
    | none => rfl
    | some o => have := Heap.lt_size q; rw [hC, hac] at this; exact absurd this (Nat.not_lt.mpr (Nat.le_succ _))
  have frA : h₁.get? ac = none := hac ▸ size_fresh h₁
  have neq : ac ≠ hA.objs.size := by rw [hC]; exact Nat.ne_of_lt (Nat.lt_succ_self _)
  generalize hA.objs.size = C at *
  have old : Grown h₁ h₂ := fun b o e => by
    have bC : b ≠ C := fun q => by rw [q, frC] at e; cases e
    exact hsb.extBut b o bC (Heap.get?_push_of_some _ (hHA ▸ Heap.get?_push_of_some _ e))
  have hlist : h₂.get? ac = some ⟨.type "list", none, .seq #[] 0, #[]⟩ := by
    refine hsb.extBut ac _ neq (Heap.get?_push_of_some _ ?_)
    rw [← hHA, ← hac]
    exact Heap.get?_push_size _ rfl
  have dD : ∀ b, D₁.p b → b ≠ C ∧ b ≠ ac := fun b q => by
    obtain ⟨o, e⟩ := A₁.hs.dl b q
    exact ⟨fun z => (by rw [z, frC] at e; cases e), fun z => (by rw [z, frA] at e; cases e)⟩
  have wD : ∀ b, wr b → b ≠ C ∧ b ≠ ac := fun b q => by
    obtain ⟨_, _, o, e⟩ := hw b q
    exact ⟨fun z => (by rw [z, frC] at e; cases e), fun z => (by rw [z, frA] at e; cases e)⟩
  have F0 : FS (c.comp scope cl C) (fun b => b = C ∨ b = ac) s.heap D₁ h₂ (seen cl x ρ) := by
    refine ⟨a.hs.kt, a₁.grown.trans old, fun b q => ?_, fun b q w => ?_, fun b q => ?_, .inl rfl, fun y k e => .inr ?_, fun y z k e e' => a.inj y z k (ck.cl.get e).1 (ck.cl.get e').1, ⟨_, hns⟩, fun y k e => ?_, fun y e q => ?_, A₁.hs.kd, fun b q => let ⟨o, e⟩ := A₁.hs.dl b q; ⟨o, old _ _ e⟩⟩
    · rcases q with rfl | rfl
      · exact a₁.grown.none frC
      · exact a₁.grown.none frA
    · exact w.elim (dD b q).1 (dD b q).2
    · rcases q with rfl | rfl
      · obtain ⟨o, _, _, e, _⟩ := hns; exact ⟨o, e⟩
      · exact ⟨_, hlist⟩
    · obtain ⟨v, o, e, _⟩ := a.cs y k (ck.cl.get e).1; exact ⟨o, e⟩
    · obtain ⟨v, o⟩ := A₁.cs y k (ck.cl.get e).1; exact ⟨v, o.keeps old⟩
    · unfold seen at q
      by_cases z : y = x
      · rw [if_pos z] at q; cases q
      rw [if_neg z] at q
      by_cases z' : (cl.lookup y).isSome = true
      · rw [if_pos z'] at q
        obtain ⟨kk, hkk⟩ := Option.isSome_iff_exists.mp z'
        obtain ⟨hl, hkd, hnl⟩ := ck.cl.get hkk
        cases qd : ρ y with
        | none => rw [qd] at q; cases q
        | some d =>
          rw [qd] at q
          cases q
          obtain ⟨v, va, r⟩ := A₁.look y d qd
          refine ⟨v, .inr ⟨hkd, kk, hkk, ?_⟩, (Aft.of_grown (D := D₁) (n := 0) (n' := 0) old).rd r⟩
          have ic : h₁.IsCell kk (some v) := by
            rcases va with ⟨_, m, nn, em⟩ | ⟨_, cc, e1, o⟩
            · rename_i kl
              rw [kl] at hnl; cases hnl
            · rw [hl] at e1; cases e1; exact o
          exact ic.keeps old
      · rw [if_neg z'] at q; cases q
  have ks : (c.comp scope cl C).env.kindOf x = some .local := lookup_relabel_local ck.x
  have sub : ∀ y e d, seen cl x ρ y = some e → (upd (seen cl x ρ) x (.dat d)) y = some e := fun y e d q => by
    by_cases z : y = x
    · unfold seen at q; rw [if_pos z] at q; cases q
    · simp only [upd, if_neg z]; exact q
  have scopek : ((c.comp scope cl C).env.scope.kind == .class || ((c.comp scope cl C).env.scope.kind == .module && (c.comp scope cl C).env.locals != (c.comp scope cl C).env.globals)) = false := by simp [compEnvC, relabel, ck.kind]
  have wb : ∀ b, wr b → s.heap.get? b = none := fun b q => (hw b q).1
  have loop : ∀ s₃ : Shared, s₃ = { s with heap := h₂, toks := t₁ + ([] : List (Str × Value)).length } →
      codeAny (model P0 c.w) A (.compLoop (.ListComp elt [⟨.Name x px, iter, ifs, 0⟩] scope pos) 0 (.ref I) (.ref ac) (compEnvC scope cl C c.env)) (RR (.ref ac) C) s₃ := by
    intro s₃ e₃
    refine codeAny_compLoop_tests (fun n s' => ∃ i D' h' tk ys m, s' = { s with heap := h', toks := tk } ∧ n = ds.length + 1 - i ∧ i ≤ ds.length ∧ St i D' h' ∧ Aft3 (fun b => b = C ∨ b = ac) D s.heap s.toks D' h' tk ∧ FS (c.comp scope cl C) (fun b => b = C ∨ b = ac) s.heap D' h' (seen cl x ρ) ∧
      (∀ b, wr b → ¬ D'.p b ∧ ∃ o, h'.get? b = some o) ∧ h'.get? ac = some ⟨.type "list", none, .seq ys m, #[]⟩ ∧ RdAll D' h' ys.toList (((ds.take i).filter p).map f) ∧ (∀ b, D'.p b → ¬ (b = C ∨ b = ac))) ?_ (ds.length + 1)
      ⟨0, D₁, h₂, _, #[], 0, e₃, rfl, Nat.zero_le _, ?_, ?_, F0, ?_, hlist, by simpa using RdAll.nil, F0.off⟩
    · rintro n s' ⟨i, D', h', tk, ys, m, rfl, rfl, hi', st, a3, F', hw', hl', ry, off'⟩
      have ylen : ys.size ≤ ds.length := by
        have e1 := ry.length
        rw [Array.length_toList, List.length_map] at e1
        rw [e1]
        exact Nat.le_trans (List.length_filter_le _ _) (by rw [List.length_take]; omega)
      by_cases hlt : i < ds.length
      · refine src.item i ds[i] D' { s with heap := h', toks := tk } _ _ (by simp) st fun v h₃ t₃ D₃ r st' aw => ?_
        have F₃ := F'.wr aw.kept aw.sub aw.tsub aw.fresh fun b q => ⟨wb b q, (hw' b q).1, fun z => z.elim (wD b q).1 (wD b q).2⟩
        obtain ⟨mm, nn⟩ := F₃.ns
        refine wpAny_assign_Name (wpAny_storeName_local ks nn (fun h₄ n₄ hs₄ => ?_) scopek)
        obtain ⟨F₄, a₄⟩ := F₃.store_local (z := .dat ds[i]) r nn ks n₄ hs₄
        have ok : Okk A (c.comp scope cl C).dp (c.comp scope cl C).un := a.ok
        have mem : ds[i] ∈ ds := List.getElem_mem hlt
        have aS := a3.step aw wb
        have p₄ : Tk c.st D₃ (t₃ + 1) := (aS.trans (a₄ t₃ _ (Nat.le_succ _))).tk a.hs.tk
        refine ht _ C mem A D₃ { s with heap := h₄, toks := t₃ + 1 } (F₄.at ok p₄) _ _ fun h₅ t₅ D₅ a₅ => ?_
        have F₅ := F₄.aft a₅
        have l₃ : h₃.get? ac = some ⟨.type "list", none, .seq ys m, #[]⟩ := aw.kept _ _ (fun q => (wD _ q).2 rfl) hl'
        have l₄ : h₄.get? ac = some ⟨.type "list", none, .seq ys m, #[]⟩ := hs₄.extBut _ _ neq l₃
        have l₅ := a₅.grown _ _ l₄
        have ry₃ : RdAll D₃ h₃ ys.toList (((ds.take i).filter p).map f) := ry.keep (fun b o q e => ⟨aw.sub b q, aw.kept b o (fun z => (hw' b z).1 q) e⟩) aw.tsub
        have ry₅ : RdAll D₅ h₅ ys.toList (((ds.take i).filter p).map f) := a₅.rdAll (ry₃.keep (fun b o q e => ⟨q, hs₄.extBut b o (fun z => F₃.off b q (.inl z)) e⟩) fun _ _ q => q)
        have wk₅ : ∀ b, wr b → ¬ D₅.p b ∧ ∃ o, h₅.get? b = some o := fun b q => by
          obtain ⟨nd, o, e⟩ := hw' b q
          obtain ⟨o₃, e₃⟩ := aw.alive b o e
          obtain ⟨o₄, e₄⟩ := (a₄ 0 0 (Nat.le_refl _)).alive b o₃ e₃
          refine ⟨fun z => ?_, o₄, a₅.grown _ _ e₄⟩
          rcases a₅.fresh b z with z | ⟨z, _⟩
          · rcases aw.fresh b z with z | ⟨z, _⟩
            · exact nd z
            · rw [e] at z; cases z
          · rw [e₄] at z; cases z
        have a35 : Aft3 (fun b => b = C ∨ b = ac) D s.heap s.toks D₅ h₅ t₅ := aS.trans ((a₄ t₃ _ (Nat.le_succ _)).trans (Aft.two a₅))
        have st₅ : St (i + 1) D₅ h₅ := src.frame (i + 1) D₃ D₅ h₃ h₅ st' a₅.sub a₅.tsub (fun b o q e => a₅.grown _ _ (hs₄.extBut b o (fun z => q.elim (fun q => F₃.off b q (.inl z)) fun q => (wD b q).1 z) e)) fun b q => (wk₅ b q).1
        have tk : (ds.take (i + 1)) = ds.take i ++ [ds[i]] := by rw [List.take_add_one, List.getElem?_eq_getElem hlt]; rfl
        cases hp : p ds[i] with
        | false =>
          rw [if_neg (by decide)]
          refine ⟨ds.length + 1 - (i + 1), by omega, i + 1, D₅, h₅, t₅, ys, m, rfl, rfl, hlt, st₅, a35, F₅.less fun y e q => sub y e _ q, wk₅, l₅, ?_, F₅.off⟩
          rw [tk, List.filter_append, List.filter_cons_of_neg (by rw [hp]; decide)]
          simpa using ry₅
        | true =>
          rw [if_pos rfl]
          refine he _ C mem hp A D₅ { s with heap := h₅, toks := t₅ } (F₅.at ok (a35.tk a.hs.tk)) _ _ fun v' h₆ t₆ D₆ a₆ r₆ => ?_
          have F₆ := F₅.aft a₆
          have l₆ := a₆.grown _ _ l₅
          refine append_call (s := { s with heap := h₆, toks := t₆ }) l₆ (Nat.le_trans ylen hsz) fun h₇ m₇ l₇ ot => ?_
          obtain ⟨F₇, a₇⟩ := F₆.list_write (.inr rfl) l₆ l₇ (fun b o q e => (ot b q).trans e) (fun y xs q => by
            by_cases z : y = x
            · simp only [upd, if_pos z] at q; cases q
            · simp only [upd, if_neg z] at q
              obtain ⟨d, z⟩ := seen_dat q
              cases z)
          have ry₆ := a₆.rdAll ry₅
          have Dk : ∀ b o, D₆.p b → h₆.get? b = some o → D₆.p b ∧ h₇.get? b = some o := fun b o q e => ⟨q, (ot b fun z => F₆.off b q (.inr z)).trans e⟩
          have wk₆ : ∀ b, wr b → ¬ D₆.p b ∧ ∃ o, h₇.get? b = some o := fun b q => by
            obtain ⟨nd, o, e⟩ := wk₅ b q
            refine ⟨fun z => ?_, o, (ot b (wD b q).2).trans (a₆.grown _ _ e)⟩
            rcases a₆.fresh b z with z | ⟨z, _⟩
            · exact nd z
            · rw [e] at z; cases z
          have st₇ : St (i + 1) D₆ h₇ := src.frame (i + 1) D₅ D₆ h₅ h₇ st₅ a₆.sub a₆.tsub (fun b o q e => (ot b (q.elim (fun q z => F₅.off b q (.inr z)) fun q => (wD b q).2)).trans (a₆.grown _ _ e)) fun b q => (wk₆ b q).1
          refine ⟨ds.length + 1 - (i + 1), by omega, i + 1, D₆, h₇, t₆, ys.push v', m₇, rfl, rfl, hlt, st₇, a35.trans ((Aft.two a₆).trans (a₇ _ _ (Nat.le_refl _))), F₇.less fun y e q => sub y e _ q, wk₆, l₇, ?_, F₇.off⟩
          rw [tk, List.filter_append, List.filter_cons_of_pos hp, List.map_append, Array.toList_push]
          exact (ry₆.keep Dk fun _ _ q => q).append (.cons (r₆.keep Dk fun _ _ q => q) (by simpa using RdAll.nil))
      · obtain rfl : i = ds.length := by omega
        refine src.done D' { s with heap := h', toks := tk } _ _ st fun h₃ t₃ mo kp => ?_
        have F₃ : FS (c.comp scope cl C) (fun b => b = C ∨ b = ac) s.heap D' h₃ (seen cl x ρ) := F'.wr kp (fun _ q => q) (fun _ _ q => q) (fun _ q => .inl q) fun b q => ⟨wb b q, (hw' b q).1, fun z => z.elim (wD b q).1 (wD b q).2⟩
        have l₃ : h₃.get? ac = some ⟨.type "list", none, .seq ys m, #[]⟩ := kp _ _ (fun q => (wD _ q).2 rfl) hl'
        have ry₃ : RdAll D' h₃ ys.toList (((ds.take ds.length).filter p).map f) := ry.keep (fun b o q e => ⟨q, kp b o (fun z => (hw' b z).1 q) e⟩) fun _ _ q => q
        rw [List.take_length] at ry₃
        obtain ⟨mm, nn⟩ := F₃.ns
        refine k _ C h₃ t₃ (D'.or fun b => b = ac) mm ⟨F₃.gr, fun b q => .inl (a3.sub b q), fun b q => ?_, a3.tsub, Nat.le_trans a3.mono mo, fun o q => let ⟨o', q'⟩ := a3.ok o q; ⟨⟨o'.fn, o'.ub, o'.pos⟩, Nat.le_trans q' mo⟩⟩ (.list (.inr rfl) l₃ (RdAll.keep (D := D') (D' := D'.or fun b => b = ac) (fun b o q e => ⟨Or.inl q, e⟩) (fun _ _ q => q) ry₃)) (a₁.grown.none frC) (fun q => q.elim (fun q => F₃.off C q (.inl rfl)) fun q => neq q.symm) nn
        rcases q with q | rfl
        · rcases a3.fresh b q with q | q | ⟨q, _⟩
          · exact .inl q
          · exact absurd q (off' b ‹_›)
          · obtain ⟨o, e⟩ := F₃.dl b ‹_›; exact .inr ⟨q, o, e⟩
        · exact .inr ⟨a₁.grown.none frA, _, l₃⟩
    · exact src.frame 0 D₁ D₁ h₁ h₂ st0 (fun _ q => q) (fun _ _ q => q) (fun b o _ e => old b o e) fun b q => (hw b q).2.1
    · exact Aft3.trans (Aft.two a₁) (Aft.two (Aft.of_grown old))
    · exact fun b q => ⟨(hw b q).2.1, let ⟨o, e⟩ := (hw b q).2.2; ⟨o, old _ _ e⟩⟩
  exact codeAny_compStart_list (loop _ rfl) (src.self 0 D₁ _ _ _ (src.frame 0 D₁ D₁ h₁ h₂ st0 (fun _ q => q) (fun _ _ q => q) (fun b o _ e => old b o e) fun b q => (hw b q).2.1) (loop _ rfl))

/-- what differs at C alone keeps the data -/
theorem Aft.but {D D' : Ad} {h h' h'' : Heap} {m m' : Nat} {C : Addr} (x : Aft D h m D' h' m') (hs : Heap.SameBut C h' h'') (n : h.get? C = Option.none) (nd : ¬ D'.p C) : Aft D h m D' h'' m' :=
  ⟨fun b o e => hs.extBut b o (fun q => by rw [q, n] at e; cases e) (x.grown b o e), x.sub, fun b q => (x.fresh b q).imp id fun ⟨e, o, e'⟩ => ⟨e, o, hs.extBut b o (fun z => nd (z ▸ q)) e'⟩, x.tsub, x.mono, x.ok⟩
theorem Rd.but {D : Ad} {h h' : Heap} {C : Addr} {v : Value} {d : PD} (r : Rd D h v d) (hs : Heap.SameBut C h h') (nd : ¬ D.p C) : Rd D h' v d :=
  r.keep (fun a o q e => ⟨q, hs.extBut a o (fun z => nd (z ▸ q)) e⟩) fun _ _ q => q
section
variable {c : Cx} {ρ : Str → Option PD} {elt iter : Expr} {x : Str} {px : Pos} {ifs : List Expr} {scope : Scope} {cl : List (Str × Addr)} {pos : Pos} {ds : List PD}
theorem ev_comp (f : PD → PD) (p : PD → Bool)
    (ck : CompOk c.env scope cl x) (hi : EvI0 c ρ iter ds) (hsz : ds.length ≤ sizeLine)
    (ht : ∀ d C, d ∈ ds → EvTs (c.comp scope cl C) (dats (upd (seen cl x ρ) x (.dat d))) ifs (p d))
    (he : ∀ d C, d ∈ ds → p d = true → EvE (c.comp scope cl C) (dats (upd (seen cl x ρ) x (.dat d))) elt (f d))
    (hs : ∀ x, foldedSetIterable iter c.env x = pure x) : EvE c ρ (.ListComp elt [⟨.Name x px, iter, ifs, 0⟩] scope pos) (.list ((ds.filter p).map f)) := by
  intro A D s a Q E k
  rw [eval_ListComp]
  refine wpAny_comprehension_free (use := none) rfl hs ck.clos ck.kind ck.names ?_
  refine comp_block f p ck hi hsz ht he a (RR := fun acc C => compPost (model P0 c.w) A E none Q acc C) ?_
  intro v C h' tk' D' m' a' r hC nd hn
  exact ⟨m', hn, fun h'' hs'' => k v h'' tk' D' (a'.but hs'' hC nd) (r.but hs'' nd)⟩
theorem ss_assign_comp {W : Pr} {base : Heap} {ρ : Nm} {P : PF → Nm → Prop} {y : Str} {py spos : Pos} {rest : List Stmt} (f : PD → PD) (p : PD → Bool) (hy : Wr c W y)
    (ck : CompOk c.env scope cl x) (hi : EvI0 c (dats ρ) iter ds) (hsz : ds.length ≤ sizeLine)
    (ht : ∀ d C, d ∈ ds → EvTs (c.comp scope cl C) (dats (upd (seen cl x (dats ρ)) x (.dat d))) ifs (p d))
    (he : ∀ d C, d ∈ ds → p d = true → EvE (c.comp scope cl C) (dats (upd (seen cl x (dats ρ)) x (.dat d))) elt (f d))
    (hs : ∀ x, foldedSetIterable iter c.env x = pure x) (hsw : swapsWith (.ListComp elt [⟨.Name x px, iter, ifs, 0⟩] scope pos) (some (.Name y py)) spos.line c.env = pure true)
    (h : EvSs c W base rest (upd ρ y (.dat (.list ((ds.filter p).map f)))) P) : EvSs c W base (.Assign [.Name y py] (.ListComp elt [⟨.Name x px, iter, ifs, 0⟩] scope pos) spos :: rest) ρ P := by
  intro A D s Q E ok p₀ F k
  refine wpAny_execs_cons ?_
  rw [exec_Assign_Name_used _ _ _ _ hsw]
  refine wpAny_bind (wpAny_standAt (wpAny_bind ?_))
  show wpAny _ A (do let _ ← comprehension (.ListComp elt [⟨.Name x px, iter, ifs, 0⟩] scope pos) scope c.env _ (newList []) false (eval iter c.env) (some (assign (.Name y py) c.env))) _ _ s
  refine wpAny_bind (wpAny_mono (wpAny_comprehension_free (use := some (assign (.Name y py) c.env)) (Q := fun _ s' => wpAny (model P0 c.w) A (execs rest c.env) Q E s') rfl hs ck.clos ck.kind ck.names ?_) (fun _ s' hq => wpAny_pure (wpAny_pure hq)) fun _ _ e => e)
  refine comp_block f p ck hi hsz ht he (F.at ok p₀) (RR := fun acc C => compPost (model P0 c.w) A E (some (assign (.Name y py) c.env)) (fun _ s' => wpAny (model P0 c.w) A (execs rest c.env) Q E s') acc C) ?_
  intro v C h' tk' D' m' a' r hC nd hn
  have F' := F.aft a'
  have nW : ¬ W C := fun w => by obtain ⟨o, e⟩ := F.ex C w; rw [hC] at e; cases e
  have bC : base.get? C = none := by
    cases q : base.get? C with
    | none => rfl
    | some o => have := F.gr C o q; rw [hC] at this; cases this
  show wpAny _ A (assign (.Name y py) c.env v) _ _ _
  refine wpAny_assign_Name (store (s := { s with heap := h', toks := tk' }) (z := .dat _) hy F' r fun h₂ t₂ a₂ F₂ => ?_)
  refine ⟨m', hn.at' fun o e => a₂.kept _ _ nW e, fun h₃ hs₃ => ?_⟩
  have F₃ : FS c W base D' h₃ (upd ρ y (.dat (.list ((ds.filter p).map f)))) := F₂.wr (wr := fun b => b = C) (fun b o q e => hs₃.extBut b o q e) (fun _ q => q) (fun _ _ q => q) (fun _ q => .inl q) fun b q => by subst q; exact ⟨bC, nd, nW⟩
  refine h A D' { s with heap := h₃, toks := t₂ } Q E ok (a₂.tk (p₀.aft a')) F₃ fun fl pf ρ' h₄ t₄ D₄ hp a₄ f₄ fr => k fl pf ρ' h₄ t₄ D₄ hp ?_ f₄ fr
  have a3 : Aft3 W D s.heap s.toks D' h₂ t₂ := (Aft.two a').trans a₂
  refine Aft3.trans (D' := D') (h' := h₃) (n' := t₂) ⟨fun b o w e => hs₃.extBut b o (fun q => by rw [q, hC] at e; cases e) (a3.kept b o w e), fun b o e => ?_, a3.sub, fun b q => (a3.fresh b q).imp id (Or.imp id fun ⟨e, o, e'⟩ => ⟨e, o, hs₃.extBut b o (fun z => nd (z ▸ q)) e'⟩), a3.tsub, a3.mono, a3.ok⟩ a₄
  obtain ⟨o', e'⟩ := a3.alive b o e
  exact ⟨o', hs₃.extBut b o' (fun q => by rw [q, hC] at e; cases e) e'⟩
end
end Mine
end

-- F9
section
open PySem PySem.W PyProof.Rows PySem.W.X PySem.Calls PySem.Spec PySem.SeqAt
set_option Elab.async false
set_option maxRecDepth 100000
set_option linter.unusedVariables false
namespace Mine
section
variable {c : Cx} {ρ : Str → Option PD}
/-- a method of a text, called with arguments -/
theorem ev_meth {o : Expr} {name : Str} {id : String} {x : Str} {apos pos : Pos} {e : Expr} {es : List Expr} {ds : List PD} {d : PD} (ho : EvE c ρ o (.str x))
    (hg : ∀ (A : Around) (s : Shared) (t : Tok) (pl : Sem Bool) (Q : Value × List Value → Shared → Prop) (E : Value → Shared → Prop), Q (.builtin id, [.str x t]) s → wpAny (model P0 c.w) A (getMethod (.str x t) name pl) Q E s)
    (he : EvEs c ρ (e :: es) ds) (hc : Cal c (.builtin id) (.str x :: ds) d) (h1 : starEach (e :: es) c.env = (false, eval e c.env) :: starEach es c.env) (h2 : (backTo pos (starEach es c.env)).any (·.1) = false) {pl : Sem Bool}
    (hev : eval (.Call (.Attribute o name apos) (e :: es) [] pos) c.env = (do
      let ov ← eval o c.env
      standAt apos.atName
      let (f, first) ← holding [ov] (getMethod ov name pl)
      callWith pos f first (backTo pos (starEach (e :: es) c.env)) [])) : EvE c ρ (.Call (.Attribute o name apos) (e :: es) [] pos) d := by
  intro A D s a Q E k
  refine MethodCall_ (pl := pl) ?_ hev
  refine ho A D s a _ _ fun v h₁ t₁ D₁ a₁ r₁ => ?_
  cases r₁ with
  | str _ t nz =>
    refine hg A _ t _ _ _ ?_
    have A₁ : At c A D₁ { s with heap := h₁, toks := t₁ } ρ := a.aft a₁
    refine callWith_method1 ?_ h1 h2
    refine he A D₁ _ pos A₁ _ _ fun vs h₂ t₂ D₂ a₂ r₂ => ?_
    have A₂ : At c A D₂ { s with heap := h₂, toks := t₂ } ρ := A₁.aft (s' := { s with heap := h₂, toks := t₂ }) a₂
    exact hc A D₂ _ _ a.ok A₂.hs (.cons (.str x t (a₂.tsub _ _ nz)) r₂) _ _ fun v h₃ t₃ D₃ a₃ r₃ => k v h₃ t₃ D₃ (a₁.trans (Aft.trans a₂ a₃)) r₃
theorem gm_startswith {x : Str} (A : Around) (s : Shared) (t : Tok) (pl : Sem Bool) (Q : Value × List Value → Shared → Prop) (E : Value → Shared → Prop) (q : Q (.builtin "str.startswith", [.str x t]) s) : wpAny (model P0 c.w) A (getMethod (.str x t) "startswith" pl) Q E s := GM.startswith q
theorem gm_endswith {x : Str} (A : Around) (s : Shared) (t : Tok) (pl : Sem Bool) (Q : Value × List Value → Shared → Prop) (E : Value → Shared → Prop) (q : Q (.builtin "str.endswith", [.str x t]) s) : wpAny (model P0 c.w) A (getMethod (.str x t) "endswith" pl) Q E s := GM.endswith q
theorem gm_rfind {x : Str} (A : Around) (s : Shared) (t : Tok) (pl : Sem Bool) (Q : Value × List Value → Shared → Prop) (E : Value → Shared → Prop) (q : Q (.builtin "str.rfind", [.str x t]) s) : wpAny (model P0 c.w) A (getMethod (.str x t) "rfind" pl) Q E s := GM.rfind q
theorem gm_rstrip {x : Str} (A : Around) (s : Shared) (t : Tok) (pl : Sem Bool) (Q : Value × List Value → Shared → Prop) (E : Value → Shared → Prop) (q : Q (.builtin "str.rstrip", [.str x t]) s) : wpAny (model P0 c.w) A (getMethod (.str x t) "rstrip" pl) Q E s := GM.rstrip q
theorem gm_split {x : Str} (A : Around) (s : Shared) (t : Tok) (pl : Sem Bool) (Q : Value × List Value → Shared → Prop) (E : Value → Shared → Prop) (q : Q (.builtin "str.split", [.str x t]) s) : wpAny (model P0 c.w) A (getMethod (.str x t) "split" pl) Q E s := GM.split q
theorem gm_join {x : Str} (A : Around) (s : Shared) (t : Tok) (pl : Sem Bool) (Q : Value × List Value → Shared → Prop) (E : Value → Shared → Prop) (q : Q (.builtin "str.join", [.str x t]) s) : wpAny (model P0 c.w) A (getMethod (.str x t) "join" pl) Q E s := GM.join q
theorem two_strs {D : Ad} {h : Heap} {vs : List Value} {x y : Str} (r : RdAll D h vs [.str x, .str y]) : ∃ t u, vs = [.str x t, .str y u] ∧ D.T t x ∧ D.T u y := by
  cases r with
  | cons r rs => cases rs with
    | cons r' rs => cases rs; cases r with | str _ t n => cases r' with | str _ u m => exact ⟨_, _, rfl, n, m⟩
theorem post_tok {D : Ad} {s : Shared} {q : Prop} [Decidable q] {y z : Str} {t : Tok} {Q : Value → Shared → Prop} (nt : D.T t y) (hz : ¬ q → z.length ≤ sizeLine)
    (h : ∀ v h' tk' D', Aft D s.heap s.toks D' h' tk' → Rd D' h' v (.str (if q then y else z)) → Q v { s with heap := h', toks := tk' }) : (if q then Made.val (.str y t) else Made.str z).post Q s := by
  by_cases hc : q
  · rw [if_pos hc]; exact h _ s.heap s.toks D (Aft.refl _ _) (by rw [if_pos hc]; exact .str _ _ nt)
  · rw [if_neg hc]; exact ⟨hz hc, h _ s.heap _ _ (Aft.mint _ _ _ z) (by rw [if_neg hc]; exact rd_mint)⟩
theorem cal_startswith {x y : Str} : Cal c (.builtin "str.startswith") [.str x, .str y] (.bool (Txt.startswith x y)) := by
  intro A D s vs ok hs r Q E k
  obtain ⟨t, u, rfl, nt, nu⟩ := two_strs r
  exact SC.startswith (k _ s.heap s.toks D (Aft.refl _ _) (.bool _))
theorem cal_endswith {x y : Str} : Cal c (.builtin "str.endswith") [.str x, .str y] (.bool (Txt.endswith x y)) := by
  intro A D s vs ok hs r Q E k
  obtain ⟨t, u, rfl, nt, nu⟩ := two_strs r
  exact SC.endswith (k _ s.heap s.toks D (Aft.refl _ _) (.bool _))
theorem cal_rfind {x y : Str} : Cal c (.builtin "str.rfind") [.str x, .str y] (.int (Txt.rfind x y)) := by
  intro A D s vs ok hs r Q E k
  obtain ⟨t, u, rfl, nt, nu⟩ := two_strs r
  exact SC.rfind (k _ s.heap _ D (Aft.refl _ _) (.int _ _))
theorem cal_rstrip {x y : Str} (hx : x.length ≤ sizeLine) : Cal c (.builtin "str.rstrip") [.str x, .str y] (.str (Txt.rstripChars x y)) := by
  intro A D s vs ok hs r Q E k
  obtain ⟨t, u, rfl, nt, nu⟩ := two_strs r
  refine call_gives F.slot_str_rstrip (typeIs_str _ _ _) F.entry_str_rstrip (F.args_str_rstrip_2 _ _) (gives_str_rstrip_chars x y t u) ?_
  exact post_tok nt (fun _ => fits_stripped _ _ _ hx) k
theorem rdAll_strs {D : Ad} {h : Heap} : ∀ {l : List (Str × Tok)}, (∀ p ∈ l, D.T p.2 p.1) → RdAll D h (strValues l) ((l.map (·.1)).map .str)
  | [], _ => .nil
  | (x, t) :: l, z => .cons (.str x t (z (x, t) (by simp))) (rdAll_strs fun p q => z p (List.mem_cons_of_mem _ q))
/-- many new texts -/
theorem Aft.mints (h : Heap) : ∀ (xs : List Str) (D : Ad) (n : Nat), ∃ D', Aft D h n D' h (n + xs.length) ∧ (∀ a, D'.p a = D.p a) ∧ ∀ p ∈ numbered n xs, D'.T p.2 p.1
  | [], D, n => ⟨D, Aft.refl _ _, fun _ => rfl, fun _ q => by cases q⟩
  | x :: xs, D, n => by
    obtain ⟨D', a, e, z⟩ := Aft.mints h xs (D.mint n x) (n + 1)
    refine ⟨D', ?_, e, fun p q => ?_⟩
    · have := (Aft.mint D h n x).trans a
      rw [show n + 1 + xs.length = n + (x :: xs).length by rw [List.length_cons]; omega] at this
      exact this
    · rcases List.mem_cons.mp q with rfl | q
      · exact a.tsub _ _ (.inr ⟨rfl, rfl⟩)
      · exact z p q
theorem strs_vals {D : Ad} {h : Heap} : ∀ {vs : List Value} {xs : List Str}, RdAll D h vs (xs.map .str) → ∃ l : List (Str × Tok), vs = strValues l ∧ l.map (·.1) = xs ∧ ∀ p ∈ l, D.T p.2 p.1
  | [], [], _ => ⟨[], rfl, rfl, fun _ q => by cases q⟩
  | v :: vs, x :: xs, .cons r rs => by
    cases r with
    | str _ t n =>
      obtain ⟨l, rfl, e, z⟩ := strs_vals rs
      refine ⟨(x, t) :: l, rfl, by rw [← e]; rfl, fun p q => ?_⟩
      rcases List.mem_cons.mp q with rfl | q
      · exact n
      · exact z p q
theorem strs_rdAll {D : Ad} {h : Heap} : ∀ {vs : List Value} {xs : List Str}, RdAll D h vs (xs.map .str) → StrsAre vs xs
  | [], [], _ => .nil
  | v :: vs, x :: xs, .cons r rs => by cases r; exact .cons _ _ (strs_rdAll rs)
/-- one new list -/
theorem cal_split {x y : Str} (hy : (y.length == 0) = false) (hx : x.length ≤ sizeLine) (hp : (Builtin.Str.partsBetween x (Builtin.Str.occurrences x y 0 x.length (x.length + 1)) y.length).length ≤ sizeLine) : Cal c (.builtin "str.split") [.str x, .str y] (.list ((Txt.split x y).map .str)) := by
  intro A D s vs ok hs r Q E k
  obtain ⟨t, u, rfl, nt, nu⟩ := two_strs r
  have fin : ∀ (l : List (Str × Tok)) (tk : Nat) (D' : Ad), Aft D s.heap s.toks D' s.heap tk → (∀ p ∈ l, D'.T p.2 p.1) → l.map (·.1) = Txt.split x y → Q (.ref s.heap.objs.size) { s with heap := s.heap.push { cls := .type "list", data := .seq (strValues l).toArray }, toks := tk } := fun l tk D' a z e => by
    refine k _ _ tk _ (a.trans (Aft.push _)) (.list (.inr rfl) (Heap.get?_push_size _ rfl) ?_)
    rw [← e]
    simpa using rdAll_strs (D := D'.or fun b => b = s.heap.objs.size) z
  cases h1 : (decide (x.length < y.length) || decide (Builtin.Str.strKind x < Builtin.Str.strKind y))
  · cases hf : (Builtin.Str.occurrences x y 0 x.length (x.length + 1)).isEmpty
    · refine mono_of (call_meets F.slot_str_split (typeIs_str _ _ _) F.entry_str_split (F.args_str_split_2 _ _) (meets_str_split_sep x y t u h1 hy hf hx hp) ?_)
      show wants _ E _ { s with toks := _, heap := s.heap.push { cls := .type "list", data := .seq (strsFrom s.toks (Builtin.Str.partsBetween x (Builtin.Str.occurrences x y 0 x.length (x.length + 1)) y.length)).toArray } }
      rw [strsFrom_eq]
      intro _
      obtain ⟨D', a, e, z⟩ := Aft.mints s.heap (Builtin.Str.partsBetween x (Builtin.Str.occurrences x y 0 x.length (x.length + 1)) y.length) D s.toks
      exact fin (numbered s.toks _) _ D' a z ((numbered_texts _ _).trans ((if_neg (ne_true_of_eq_false h1)).trans (if_neg (ne_true_of_eq_false hf))).symm)
    · exact call_meets F.slot_str_split (typeIs_str _ _ _) F.entry_str_split (F.args_str_split_2 _ _) (meets_str_split_not_found x y t u h1 hy hf)
        (fin [(x, t)] s.toks D (Aft.refl _ _) (by intro p q; rw [List.mem_singleton] at q; subst q; exact nt) ((if_neg (ne_true_of_eq_false h1)).trans (if_pos hf)).symm)
  · exact call_meets F.slot_str_split (typeIs_str _ _ _) F.entry_str_split (F.args_str_split_2 _ _) (meets_str_split_cannot_occur x y t u h1)
      (fin [(x, t)] s.toks D (Aft.refl _ _) (by intro p q; rw [List.mem_singleton] at q; subst q; exact nt) (if_pos h1).symm)
theorem cal_join {x : Str} {ys : List Str} (hok : (ys.map (·.length)).sum + ys.length * x.length ≤ 16777216) : Cal c (.builtin "str.join") [.str x, .list (ys.map .str)] (.str (Txt.join x ys)) := by
  intro A D s vs ok hs r Q E k
  cases r with
  | cons r rs => cases rs with
    | cons r' rs =>
      cases rs; cases r
      cases r' with
      | list da o ra =>
        rename_i t nt ax vs n
        obtain ⟨l, hv, ht, hz⟩ := strs_vals ra
        have e : vs = (strValues l).toArray := by rw [← hv]
        subst e
        have hok' : JoinOk x (l.map (·.1)) = true := by rw [ht]; exact joinOk_of hok
        unfold JoinOk at hok'
        rw [Bool.not_eq_true'] at hok'
        refine call_meets F.slot_str_join (typeIs_str _ _ _) F.entry_str_join (F.args_str_join_2 _ _) (meets_str_join_list x t ax l hok') ⟨⟨_, o, rfl, _, rfl⟩, ?_⟩
        have hl := joinFit_length hok'
        have fin : ∀ v tk D', Aft D s.heap s.toks D' s.heap tk → Rd D' s.heap v (.str (Txt.join x (l.map (·.1)))) → Q v { s with toks := tk } := fun v tk D' a z => by rw [ht] at z; exact k _ s.heap tk D' a z
        match l, hz, hl, fin with
        | [], _, hl, fin => exact ⟨hl, fin _ _ _ (Aft.mint _ _ _ _) rd_mint⟩
        | [p], hz, hl, fin => exact fin _ s.toks D (Aft.refl _ _) (.str p.1 p.2 (hz p (by simp)))
        | _ :: _ :: _, _, hl, fin => exact ⟨hl, fin _ _ _ (Aft.mint _ _ _ _) rd_mint⟩
def mulS (x : Str) (n : Int) : Str := if n < 1 then Str.empty else if (n == 1 || x.length == 0) = true then x else ⟨(List.replicate n.toNat x.cps).foldl (· ++ ·) #[]⟩
theorem op_mul_str {x : Str} {n : Int} (hr : (decide (n < -(2 ^ 63 : Int)) || decide (n ≥ 2 ^ 63)) = false) (hb : ¬ n < 1 → (n == 1 || x.length == 0) = false → ¬ ((x.length : Int) > (2 ^ 63 - 1) / n)) (hl : ¬ n < 1 → (n == 1 || x.length == 0) = false → Builtin.Str.tooLong (x.length * n.toNat) = false)
    (hs : (mulS x n).length ≤ sizeLine) : Op2 c (binaryOp .Mult) (.str x) (.int n) (.str (mulS x n)) := by
  intro A D s va vb _ hs' ra rb Q E k; cases ra with | str _ t nt => ?_
  cases rb
  refine P.mul_str hr hb hl ?_
  unfold mulS at k hs
  by_cases h1 : n < 1
  · rw [if_pos h1]; rw [if_pos h1] at k hs; exact ⟨hs, k _ s.heap _ _ (Aft.mint _ _ _ _) rd_mint⟩
  · rw [if_neg h1]; rw [if_neg h1] at k hs
    by_cases h2 : (n == 1 || x.length == 0) = true
    · rw [if_pos h2]; rw [if_pos h2] at k; exact k _ s.heap s.toks D (Aft.refl _ _) (.str _ _ nt)
    · rw [if_neg h2]; rw [if_neg h2] at k hs; exact ⟨hs, k _ s.heap _ _ (Aft.mint _ _ _ _) rd_mint⟩
theorem op_iadd_str {x y : Str} (h : x.length + y.length ≤ sizeLine) : Op2 c (inplaceOp .Add) (.str x) (.str y) (.str (x ++ y)) := by
  intro A D s va vb _ hs ra rb Q E k; cases ra with | str _ t n => cases rb with | str _ u m => exact PySem.P.iadd_str (made_cat k n m h)
/-- truth of texts, ints, sequences -/
theorem tru_str {x : Str} (h : ¬ (x.length : Int) ≥ 2 ^ 63) : Tru c (.str x) ((x.length : Int) != 0) := by
  intro A D s v _ r Q E k; cases r
  exact P.truthy_str h (k s.heap _ D (Aft.refl _ _))
end
end Mine
end

-- C1
section
open PySem PySem.W PyProof.Rows PySem.W.X PySem.Calls PySem.Spec PySem.SeqAt
set_option Elab.async false
set_option maxRecDepth 100000
set_option maxHeartbeats 0
set_option linter.unusedVariables false
namespace Mine
theorem filled4 : PySem.Challenge.rw_in0208_01 = PySem.Challenge.rw_in0208_01 ∧ hd.heap_39 = hd.heap_39 := by k_fill; exact ⟨rfl, rfl⟩
/-- room for n calls -/
def Rm (c : Cx) (n : Nat) : Prop := c.dp + n ≤ 400 ∧ c.un + 3 * n ≤ 4000
theorem Rm.lim {c : Cx} {n : Nat} (h : Rm c n) : c.dp < recursionLimit := by
  have : c.dp ≤ 400 := Nat.le_trans (Nat.le_add_right _ _) h.1
  exact Nat.lt_of_le_of_lt this (by decide)
theorem Rm.down {c : Cx} {n : Nat} (h : Rm c (n + 1)) {env : Env} : Rm ⟨c.w, c.dp + 1, c.un + 3, env, c.st⟩ n := by
  obtain ⟨a, b⟩ := h
  constructor
  · show c.dp + 1 + n ≤ 400; omega
  · show c.un + 3 + 3 * n ≤ 4000; omega
theorem Rm.comp {c : Cx} {n : Nat} (h : Rm c n) {scope : Scope} {cl : List (Str × Addr)} {C : Addr} : Rm (c.comp scope cl C) n := h
theorem Rm.less {c : Cx} {n m : Nat} (h : Rm c n) (l : m ≤ n) : Rm c m := by
  obtain ⟨a, b⟩ := h
  exact ⟨by omega, by omega⟩
theorem bt1 {fd : FuncData} {x : Str} (h : ∀ v, bindArgs fd ⟨[v], []⟩ = pure [(x, v)]) : ∀ (s : Shared) (vs : List Value), vs.length = [x].length → BindsTo s fd ⟨vs, []⟩ ([x].zip vs) := by
  intro s vs hv
  match vs, hv with
  | [v], _ => exact BindsTo.of_eq (h v)
theorem bt0 {fd : FuncData} (h : bindArgs fd ⟨[], []⟩ = pure []) : ∀ (s : Shared) (vs : List Value), vs.length = ([] : List Str).length → BindsTo s fd ⟨vs, []⟩ (([] : List Str).zip vs) := by
  intro s vs hv
  match vs, hv with
  | [], _ => exact BindsTo.of_eq h
theorem bt2 {fd : FuncData} {x y : Str} (h : ∀ v u, bindArgs fd ⟨[v, u], []⟩ = pure [(x, v), (y, u)]) : ∀ (s : Shared) (vs : List Value), vs.length = [x, y].length → BindsTo s fd ⟨vs, []⟩ ([x, y].zip vs) := by
  intro s vs hv
  match vs, hv with
  | [v, u], _ => exact BindsTo.of_eq (h v u)
theorem bt3 {fd : FuncData} {x y z : Str} (h : ∀ v u r, bindArgs fd ⟨[v, u, r], []⟩ = pure [(x, v), (y, u), (z, r)]) : ∀ (s : Shared) (vs : List Value), vs.length = [x, y, z].length → BindsTo s fd ⟨vs, []⟩ ([x, y, z].zip vs) := by
  intro s vs hv
  match vs, hv with
  | [v, u, r], _ => exact BindsTo.of_eq (h v u r)
theorem bt4 {fd : FuncData} {x y z t : Str} (h : ∀ v u r q, bindArgs fd ⟨[v, u, r, q], []⟩ = pure [(x, v), (y, u), (z, r), (t, q)]) : ∀ (s : Shared) (vs : List Value), vs.length = [x, y, z, t].length → BindsTo s fd ⟨vs, []⟩ ([x, y, z, t].zip vs) := by
  intro s vs hv
  match vs, hv with
  | [v, u, r, q], _ => exact BindsTo.of_eq (h v u r q)
theorem Aft.mintAt {D : Ad} {h : Heap} {n t n' : Nat} {x : Str} (m : n ≤ t) (m' : t < n') : Aft D h n (D.mint t x) h n' :=
  (Aft.refl D h m).trans ((Aft.mint D h t x).later m')
def OutV (s : Shared) (Q : Value → Shared → Prop) (v : Value) : Prop := ∀ h' tk', Grown s.heap h' → Q v { s with heap := h', toks := tk' }
theorem outV_of {s : Shared} {Q : Value → Shared → Prop} {v : Value} (H : OutV s Q v) {h' t' news} (D : Mem s.heap h' [] news) : Q v ⟨h', s.gens, s.drawn, t', s.os⟩ := H h' t' (keepAll D)
def OutS (s : Shared) (Q : Value → Shared → Prop) (x : Str) : Prop := ∀ t h' tk', s.toks ≤ t → t < tk' → Grown s.heap h' → Q (.str x t) { s with heap := h', toks := tk' }
theorem outS_of {s : Shared} {Q : Value → Shared → Prop} {x : Str} (H : OutS s Q x) {t h' t' news} (D : Mem s.heap h' [] news) (z : s.toks ≤ t) (z' : t < t') : Q (.str x t) ⟨h', s.gens, s.drawn, t', s.os⟩ := H t h' t' z z' (keepAll D)
/-- entering a def, in any surroundings -/
theorem enterA {w : World} {A : Around} {s : Shared} {Q E : Value → Shared → Prop} {mean : ExcName → Option Value} {mg mb : Str → Option Value} {name qual : Str} {params : Arguments} {body : List Stmt} {scope : Scope} {dV kV doc pm cdv ct oc : Value} {an od : Option Addr} {osl : Array (Option Value)} {f : Addr} {vs : List Value} {binds : List (Str × Value)}
    (X : (hd.heap_39 w.params).In s.heap) (T : Top hd.view_39 LS mean mg mb s.heap)
    (ho : (hd.heap_39 w.params).lookup f = some ⟨oc, od, .func (fnOf name qual params body scope dV kV doc pm an cdv ct), osl⟩) (hcd : codeIn (hd.heap_39 w.params) cdv qual = true)
    (hroom : A.depth < recursionLimit)
    (hbind : BindsTo s (fnOf name qual params body scope dV kV doc pm an cdv ct) ⟨vs, []⟩ binds)
    (hkind : (binds.all fun y => scope.names.lookup y.1 == some .local || scope.names.lookup y.1 == some .cell) = true)
    (h : ∀ h₁ tk, s.toks ≤ tk → InCallC s s.heap.objs.size (bindL (envOfC qual scope s.heap.objs.size f cdv).kindOf binds fun _ => none) (cellsFrom (s.heap.objs.size + 1) scope.names []) (bindC (envOfC qual scope s.heap.objs.size f cdv).kindOf binds fun _ => none) { s with heap := h₁, toks := tk } →
      wpAny (model P0 w) (A.deeper (envOfC qual scope s.heap.objs.size f cdv)) (execs body (envOfC qual scope s.heap.objs.size f cdv))
        (fun fl s' => Q (match fl with | .ret v => v | _ => .none) s') (fun _ _ => False)
        { s with heap := h₁, toks := tk })
    (hco : scope.isCoroutine = false) (hgen : scope.isGenerator = false) (hk : scope.kind = .function) :
    wpAny (model P0 w) A (call (.ref f) vs) Q E s := by
  refine wpAny_call ?_
  refine codeAny_call_function hroom (X _ _ ho) rfl hco hgen rfl (codeRec_of X hcd) (hbind _ _ _ _ ?_)
  refine mono_of (wpAny_newFunctionEnv_cells hk (kindsX hkind _) fun env' he s' x mo => ?_)
  subst he
  refine ⟨T.nolimit.keeps x.toInCall.keep, codeAny_func ?_⟩
  obtain ⟨h₁, tk, rfl, _⟩ := x.done
  exact wpAny_mono (h h₁ tk mo x) (fun fl s' hl => hl) fun _ _ y => y.elim
section
local macro_rules | `(tactic| x_close) => `(tactic| (first | exact outV_of (by assumption) (by assumption) | exact (by assumption : OutV _ _ _) _ _ (Grown.refl _)))
theorem isub (w : World) (l : Addr) (n : Nat) (mean : ExcName → Option Value) (mg mb : Str → Option Value) (s : Shared) (Q E : Value → Shared → Prop) (X : (hd.heap_39 w.params).In s.heap) (T : Top hd.view_39 LS mean mg mb s.heap)
    (hl : s.heap.get? l = some ⟨.type "tuple", none, .seq #[.type "str", .type "bytes"] n, #[]⟩) (hQ : OutV s Q (.bool true)) :
    wpAny (model P0 w) (AL 600 6000) (call (.builtin "issubclass") [.type "str", .ref l]) Q E s := by
  x_run
end
theorem fspath_c (w : World) (x : Str) (t : Tok) (mean : ExcName → Option Value) (mg mb : Str → Option Value) (s : Shared) (Q E : Value → Shared → Prop) (X : (hd.heap_39 w.params).In s.heap) (T : Top hd.view_39 LS mean mg mb s.heap) (hQ : OutV s Q (.str x t)) :
    wpAny (model P0 w) (AL 500 5000) (call (.ref 246) [.str x t]) Q E s := by
  have kt : KT w s.heap := ⟨X, mean, mg, mb, T⟩
  refine' enterA (binds := [("path", .str x t)]) X T ?ho ?hcd (by decide) ?hbind ?hkind ?_ ?hco ?hgen ?hk
  (case ho => k_dflt k_is); (case hcd => k_dflt k_is); (case hbind => exact BindsTo.of_eq rfl); (case hkind => exact rfl); (case hco => exact rfl); (case hgen => exact rfl); (case hk => exact rfl)
  intro h₁ tk mo xx
  have ns := xx.toInCall.ns
  have kp : Grown s.heap h₁ := xx.toInCall.keep
  have kt₁ : KT w h₁ := kt.grow kp
  have fr : ∀ b o, s.heap.get? b = some o → b ≠ s.heap.objs.size := fun b o e => Nat.ne_of_lt (Heap.lt_size e)
  refine wpAny_execs_cons ?_
  refine wpAny_Assign_Name ?_ rfl
  refine Call_ ?_
  refine ev_boot (c := ⟨w, 0, 0, _, true⟩) ⟨rfl, rfl, rfl⟩ rfl (by k_is) (by boot_by_name) (by decide) rfl _ _ _ _ kt₁ ?_
  refine PyProof.Rows.callWith_type1 ?_ rfl rfl
  refine args_cons ?_ rfl
  refine wpAny_Name (wpAny_loadName_local rfl rfl ns (v := .str x t) rfl ?_) rfl
  refine args_nil ?_
  refine call_type_of (Tx := "str") rfl (by decide +kernel) ?_
  refine wpAny_storeName_local rfl ns (fun h₂ ns₂ hs₂ => ?_) rfl
  have kp₂ : Grown s.heap h₂ := fun b o e => hs₂.extBut b o (fr b o e) (kp b o e)
  have kt₂ : KT w h₂ := kt.grow kp₂
  refine wpAny_execs_cons (wpAny_If ?_)
  refine isTrue_plain ?_ rfl
  refine Call_ ?_
  refine ev_boot (c := ⟨w, 0, 0, _, true⟩) ⟨rfl, rfl, rfl⟩ rfl (by k_is) (by boot_by_name) (by decide) rfl _ _ _ _ kt₂ ?_
  refine callWith_builtin1 ?_ rfl rfl
  refine args_cons ?_ rfl
  refine wpAny_Name (wpAny_loadName_local rfl rfl ns₂ (v := .type "str") rfl ?_) rfl
  refine args_cons ?_ rfl
  refine Tuple_ ?_
  refine args_cons ?_ rfl
  refine ev_boot (c := ⟨w, 0, 0, _, true⟩) ⟨rfl, rfl, rfl⟩ rfl (by k_is) (by boot_by_name) (by decide) rfl _ _ _ _ kt₂ ?_
  refine args_cons ?_ rfl
  refine ev_boot (c := ⟨w, 0, 0, _, true⟩) ⟨rfl, rfl, rfl⟩ rfl (by k_is) (by boot_by_name) (by decide) rfl _ _ _ _ kt₂ ?_
  refine args_nil ?_
  refine wpAny_newObj_type ?_ (by size_fits)
  refine args_nil ?_
  have g₃ : Grown h₂ (h₂.push { cls := .type "tuple", data := .seq #[.type "str", .type "bytes"] }) := fun b o e => Heap.get?_push_of_some _ e
  obtain ⟨X₃, mean', mg', mb', T₃⟩ := kt₂.grow g₃
  refine wpAny_AL (d := 600) (u := 6000) (isub w h₂.objs.size 0 mean' mg' mb' _ _ _ X₃ T₃ (Heap.get?_push_size _ rfl) ?_) rfl (by show 500 + 1 ≤ 600; decide) (by show 5000 + 3 ≤ 6000; decide)
  intro h₄ tk₄ g₄
  have ns₄ := (ns₂.keeps g₃).keeps g₄
  refine wpAny_truthy_bool ?_
  rw [if_pos rfl]
  refine wpAny_execs_cons (wpAny_Return_some ?_)
  refine wpAny_Name (wpAny_loadName_local rfl rfl ns₄ (v := .str x t) rfl ?_) rfl
  exact hQ h₄ _ (kp₂.trans (g₃.trans g₄))
/-- isinstance(text, bytes) -/
theorem et_isbytes {c : Cx} {ρ : Str → Option PD} {y1 y2 : Str} {p1 p2 q : Pos} {e : Expr} {x : Str} (hi : EvV c (.Name y1 p1) (.builtin "isinstance")) (hb : EvV c (.Name y2 p2) (.type "bytes")) (he : EvE c ρ e (.str x))
    (h1 : starEach [e, .Name y2 p2] c.env = (false, eval e c.env) :: starEach [.Name y2 p2] c.env) (h2 : starEach [.Name y2 p2] c.env = (false, eval (.Name y2 p2) c.env) :: starEach [] c.env) (h3 : (backTo q (starEach [.Name y2 p2] c.env)).any (·.1) = false)
    (ht : isTrue (.Call (.Name y1 p1) [e, .Name y2 p2] [] q) c.env (eval (.Call (.Name y1 p1) [e, .Name y2 p2] [] q) c.env) = (do let v ← eval (.Call (.Name y1 p1) [e, .Name y2 p2] [] q) c.env; standAt (Expr.pos (.Call (.Name y1 p1) [e, .Name y2 p2] [] q)); holding [v] (truthy v))) :
    EvT c ρ (.Call (.Name y1 p1) [e, .Name y2 p2] [] q) false := by
  refine et_plain (d := .bool false) ?_ tru_bool ht
  intro A D s a Q E k
  refine Call_ ?_
  refine hi A s _ _ a.hs.kt ?_
  refine callWith_builtin1 ?_ h1 h3
  refine args_cons ?_ h1
  refine he A D s a _ _ fun v h₁ t₁ D₁ a₁ r₁ => ?_
  refine args_cons ?_ h2
  have A₁ : At c A D₁ { s with heap := h₁, toks := t₁ } ρ := a.aft a₁
  refine hb A _ _ _ A₁.hs.kt ?_
  refine args_nil ?_
  cases r₁ with
  | str _ t qt => exact IsiPair.str_bytes (k _ h₁ (t₁ + 1) D₁ (a₁.later (Nat.le_succ _)) (.bool _))
theorem c_fspath {c : Cx} (hr : Rm c 4) (x : Str) : Cal c (.ref 246) [.str x] (.str x) := by
  intro A D s vs ok hs r Q E k
  cases r with
  | cons r rs =>
    cases rs
    cases r with
    | str _ t nz =>
      obtain ⟨X, mean, mg, mb, T⟩ := hs.kt
      refine mono_of (wpAny_AL (fspath_c c.w x t mean mg mb s _ E X T ?_) ok.h (Nat.le_trans ok.d (by have := hr.1; omega)) (Nat.le_trans ok.u (by have := hr.2; omega)))
      intro h' tk' g mo
      exact k _ h' tk' D (Aft.of_grown g mo) (.str _ _ nz)
-- tb_start: the sides of «cal_def»
local macro_rules | `(tactic| tb_start) => `(tactic| ((case ho => k_dflt k_is); (case hcd => k_dflt k_is); (case hbind => first | exact bt1 fun _ => rfl | exact bt2 fun _ _ => rfl | exact bt3 fun _ _ _ => rfl | exact bt4 fun _ _ _ _ => rfl | exact bt0 rfl); (case hkind => exact fun _ => rfl); (case hco => exact rfl); (case hgen => exact rfl); (case hk => exact rfl)))
theorem c_get_sep {c : Cx} (hr : Rm c 4) (x : Str) : Cal c (.ref 260) [.str x] (.str "/") := by
  refine' cal_def (xs := ["path"]) ?ho ?hcd hr.lim rfl ?hbind ?hkind ?hco ?hgen ?hk ?_; tb_start
  intro L base
  refine ss_if (b := false) (evts (et_isbytes (ev_boot ⟨rfl, rfl, rfl⟩ rfl (by k_is) (by boot_by_name) (by decide) rfl) (ev_boot ⟨rfl, rfl, rfl⟩ rfl (by k_is) (by boot_by_name) (by decide) rfl) (ev_name rfl rfl rfl rfl) rfl rfl rfl rfl)) (fun e => by cases e) fun _ => ?_
  exact ss_return (evs ev_str) rfl
end Mine
end

-- C2
section
open PySem PySem.W PyProof.Rows PySem.W.X PySem.Calls PySem.Spec PySem.SeqAt
set_option Elab.async false
set_option maxRecDepth 100000
set_option maxHeartbeats 0
set_option linter.unusedVariables false
namespace Mine
theorem filled5 : PySem.Challenge.rw_in0208_01 = PySem.Challenge.rw_in0208_01 ∧ hd.heap_39 = hd.heap_39 := by k_fill; exact ⟨rfl, rfl⟩
theorem ev_V {c : Cx} {ρ : Str → Option PD} {e : Expr} {i : Int} {t : Tok} (h : EvV c e (.int i t)) : EvE c ρ e (.int i) := fun A D s a Q E k => h A s Q E a.hs.kt (k _ s.heap s.toks D (Aft.refl _ _) (.int _ _))
theorem EvE.cast {c : Cx} {ρ : Str → Option PD} {e : Expr} {d d' : PD} (h : EvE c ρ e d) (q : d = d') : EvE c ρ e d' := q ▸ h
theorem Cal.cast {c : Cx} {f : Value} {ds : List PD} {d d' : PD} (h : Cal c f ds d) (q : d = d') : Cal c f ds d' := q ▸ h
theorem dats_of {ρ : Nm} {x : Str} {d : PD} (h : ρ x = some (.dat d)) : dats ρ x = some d := by unfold dats; rw [h]
theorem alls_of {ρ : Nm} {x : Str} {d : PD} (h : ρ x = some (.dat d)) : alls ρ x = some d := by unfold alls; rw [h]
theorem alls_own {ρ : Nm} {x : Str} {a : Addr} {xs : List PD} (h : ρ x = some (.own a xs)) : alls ρ x = some (.list xs) := by unfold alls; rw [h]
theorem st1 {env : Env} {e : Expr} (h : starEach [e] env = (false, eval e env) :: starEach [] env) {pos : Pos} : (([e] : List Expr) = [] ∧ ([d] : List PD) = []) ∨ ∃ e' r, ([e] : List Expr) = e' :: r ∧ starEach (e' :: r) env = (false, eval e' env) :: starEach r env ∧ (backTo pos (starEach r env)).any (·.1) = false := .inr ⟨_, _, rfl, h, rfl⟩
-- tb_start: the sides of «cal_def»
local macro_rules | `(tactic| tb_start) => `(tactic| ((case ho => k_dflt k_is); (case hcd => k_dflt k_is); (case hbind => first | exact bt1 fun _ => rfl | exact bt2 fun _ _ => rfl | exact bt3 fun _ _ _ => rfl | exact bt4 fun _ _ _ _ => rfl | exact bt0 rfl); (case hkind => exact fun _ => rfl); (case hco => exact rfl); (case hgen => exact rfl); (case hk => exact rfl)))
theorem c_S_IMODE {c : Cx} (hr : Rm c 1) (m : Int) : Cal c (.ref 28) [.int m] (.int (Builtin.bitAnd m 4095)) := by
  refine' cal_def (xs := ["mode"]) ?ho ?hcd hr.lim rfl ?hbind ?hkind ?hco ?hgen ?hk ?_; tb_start
  intro L base
  exact ss_return (evs (ev_bin (ev_name rfl rfl rfl rfl) ev_int op_and)) rfl
theorem c_S_IFMT {c : Cx} (hr : Rm c 1) (m : Int) : Cal c (.ref 35) [.int m] (.int (Builtin.bitAnd m 61440)) := by
  refine' cal_def (xs := ["mode"]) ?ho ?hcd hr.lim rfl ?hbind ?hkind ?hco ?hgen ?hk ?_; tb_start
  intro L base
  exact ss_return (evs (ev_bin (ev_name rfl rfl rfl rfl) ev_int op_and)) rfl
theorem c_S_ISDIR {c : Cx} (hr : Rm c 2) (m : Int) : Cal c (.ref 42) [.int m] (.bool (Builtin.bitAnd m 61440 == 16384)) := by
  refine' cal_def (xs := ["mode"]) ?ho ?hcd hr.lim rfl ?hbind ?hkind ?hco ?hgen ?hk ?_; tb_start
  intro L base
  refine ss_return (evs (ev_cmp (ev_call_def (ev_top ⟨rfl, rfl, rfl⟩ rfl (by k_is) rfl) (by k_is) (es_cons (ev_name rfl rfl rfl rfl) es_nil rfl) (c_S_IFMT hr.down m) (st1 rfl)) (ev_V (ev_top ⟨rfl, rfl, rfl⟩ rfl (by k_is) rfl)) op_eq_int rfl)) rfl
theorem c_S_ISCHR {c : Cx} (hr : Rm c 2) (m : Int) : Cal c (.ref 49) [.int m] (.bool (Builtin.bitAnd m 61440 == 8192)) := by
  refine' cal_def (xs := ["mode"]) ?ho ?hcd hr.lim rfl ?hbind ?hkind ?hco ?hgen ?hk ?_; tb_start
  intro L base
  refine ss_return (evs (ev_cmp (ev_call_def (ev_top ⟨rfl, rfl, rfl⟩ rfl (by k_is) rfl) (by k_is) (es_cons (ev_name rfl rfl rfl rfl) es_nil rfl) (c_S_IFMT hr.down m) (st1 rfl)) (ev_V (ev_top ⟨rfl, rfl, rfl⟩ rfl (by k_is) rfl)) op_eq_int rfl)) rfl
theorem c_S_ISBLK {c : Cx} (hr : Rm c 2) (m : Int) : Cal c (.ref 56) [.int m] (.bool (Builtin.bitAnd m 61440 == 24576)) := by
  refine' cal_def (xs := ["mode"]) ?ho ?hcd hr.lim rfl ?hbind ?hkind ?hco ?hgen ?hk ?_; tb_start
  intro L base
  refine ss_return (evs (ev_cmp (ev_call_def (ev_top ⟨rfl, rfl, rfl⟩ rfl (by k_is) rfl) (by k_is) (es_cons (ev_name rfl rfl rfl rfl) es_nil rfl) (c_S_IFMT hr.down m) (st1 rfl)) (ev_V (ev_top ⟨rfl, rfl, rfl⟩ rfl (by k_is) rfl)) op_eq_int rfl)) rfl
theorem c_S_ISREG {c : Cx} (hr : Rm c 2) (m : Int) : Cal c (.ref 63) [.int m] (.bool (Builtin.bitAnd m 61440 == 32768)) := by
  refine' cal_def (xs := ["mode"]) ?ho ?hcd hr.lim rfl ?hbind ?hkind ?hco ?hgen ?hk ?_; tb_start
  intro L base
  refine ss_return (evs (ev_cmp (ev_call_def (ev_top ⟨rfl, rfl, rfl⟩ rfl (by k_is) rfl) (by k_is) (es_cons (ev_name rfl rfl rfl rfl) es_nil rfl) (c_S_IFMT hr.down m) (st1 rfl)) (ev_V (ev_top ⟨rfl, rfl, rfl⟩ rfl (by k_is) rfl)) op_eq_int rfl)) rfl
theorem c_S_ISFIFO {c : Cx} (hr : Rm c 2) (m : Int) : Cal c (.ref 70) [.int m] (.bool (Builtin.bitAnd m 61440 == 4096)) := by
  refine' cal_def (xs := ["mode"]) ?ho ?hcd hr.lim rfl ?hbind ?hkind ?hco ?hgen ?hk ?_; tb_start
  intro L base
  refine ss_return (evs (ev_cmp (ev_call_def (ev_top ⟨rfl, rfl, rfl⟩ rfl (by k_is) rfl) (by k_is) (es_cons (ev_name rfl rfl rfl rfl) es_nil rfl) (c_S_IFMT hr.down m) (st1 rfl)) (ev_V (ev_top ⟨rfl, rfl, rfl⟩ rfl (by k_is) rfl)) op_eq_int rfl)) rfl
theorem c_S_ISLNK {c : Cx} (hr : Rm c 2) (m : Int) : Cal c (.ref 77) [.int m] (.bool (Builtin.bitAnd m 61440 == 40960)) := by
  refine' cal_def (xs := ["mode"]) ?ho ?hcd hr.lim rfl ?hbind ?hkind ?hco ?hgen ?hk ?_; tb_start
  intro L base
  refine ss_return (evs (ev_cmp (ev_call_def (ev_top ⟨rfl, rfl, rfl⟩ rfl (by k_is) rfl) (by k_is) (es_cons (ev_name rfl rfl rfl rfl) es_nil rfl) (c_S_IFMT hr.down m) (st1 rfl)) (ev_V (ev_top ⟨rfl, rfl, rfl⟩ rfl (by k_is) rfl)) op_eq_int rfl)) rfl
theorem c_S_ISSOCK {c : Cx} (hr : Rm c 2) (m : Int) : Cal c (.ref 84) [.int m] (.bool (Builtin.bitAnd m 61440 == 49152)) := by
  refine' cal_def (xs := ["mode"]) ?ho ?hcd hr.lim rfl ?hbind ?hkind ?hco ?hgen ?hk ?_; tb_start
  intro L base
  refine ss_return (evs (ev_cmp (ev_call_def (ev_top ⟨rfl, rfl, rfl⟩ rfl (by k_is) rfl) (by k_is) (es_cons (ev_name rfl rfl rfl rfl) es_nil rfl) (c_S_IFMT hr.down m) (st1 rfl)) (ev_V (ev_top ⟨rfl, rfl, rfl⟩ rfl (by k_is) rfl)) op_eq_int rfl)) rfl
theorem c_eq_str {c : Cx} (hr : Rm c 1) (x y : Str) : Cal c (.ref 131) [.str x, .str y] (.bool (x == y)) := by
  refine' cal_def (xs := ["a", "b"]) ?ho ?hcd hr.lim rfl ?hbind ?hkind ?hco ?hgen ?hk ?_; tb_start
  intro L base
  exact ss_return (evs (ev_cmp (ev_name rfl rfl rfl rfl) (ev_name rfl rfl rfl rfl) op_eq_str rfl)) rfl
theorem c_and {c : Cx} (hr : Rm c 1) (x y : Int) : Cal c (.ref 138) [.int x, .int y] (.int (Builtin.bitAnd x y)) := by
  refine' cal_def (xs := ["a", "b"]) ?ho ?hcd hr.lim rfl ?hbind ?hkind ?hco ?hgen ?hk ?_; tb_start
  intro L base
  exact ss_return (evs (ev_bin (ev_name rfl rfl rfl rfl) (ev_name rfl rfl rfl rfl) op_and)) rfl
theorem c_or {c : Cx} (hr : Rm c 1) (x y : Int) : Cal c (.ref 145) [.int x, .int y] (.int (Builtin.bitOr x y)) := by
  refine' cal_def (xs := ["a", "b"]) ?ho ?hcd hr.lim rfl ?hbind ?hkind ?hco ?hgen ?hk ?_; tb_start
  intro L base
  exact ss_return (evs (ev_bin (ev_name rfl rfl rfl rfl) (ev_name rfl rfl rfl rfl) op_or)) rfl
theorem c_xor {c : Cx} (hr : Rm c 1) (x y : Int) : Cal c (.ref 152) [.int x, .int y] (.int (Builtin.bitXor x y)) := by
  refine' cal_def (xs := ["a", "b"]) ?ho ?hcd hr.lim rfl ?hbind ?hkind ?hco ?hgen ?hk ?_; tb_start
  intro L base
  exact ss_return (evs (ev_bin (ev_name rfl rfl rfl rfl) (ev_name rfl rfl rfl rfl) op_xor)) rfl
theorem c_getitem_list {c : Cx} (hr : Rm c 1) (xs : List PD) (i : Nat) (d : PD) (e : xs[i]? = some d) (hi : i < 2 ^ 63) : Cal c (.ref 159) [.list xs, .int i] d := by
  refine' cal_def (xs := ["a", "b"]) ?ho ?hcd hr.lim rfl ?hbind ?hkind ?hco ?hgen ?hk ?_; tb_start
  intro L base
  exact ss_return (evs (ev_item (ev_name rfl rfl rfl rfl) (ev_name rfl rfl rfl rfl) (fun _ _ => rfl) (gi_list e hi))) rfl
theorem c_getitem_tuple {c : Cx} (hr : Rm c 1) (xs : List PD) (i : Nat) (d : PD) (e : xs[i]? = some d) (hi : i < 2 ^ 63) : Cal c (.ref 159) [.tuple xs, .int i] d := by
  refine' cal_def (xs := ["a", "b"]) ?ho ?hcd hr.lim rfl ?hbind ?hkind ?hco ?hgen ?hk ?_; tb_start
  intro L base
  exact ss_return (evs (ev_item (ev_name rfl rfl rfl rfl) (ev_name rfl rfl rfl rfl) (fun _ _ => rfl) (gi_tuple e hi))) rfl
/-- dirname, of a text whose steps are known -/
theorem c_dirname {c : Cx} (hr : Rm c 6) (x hd r : Str) (i : Int) (b : Bool) (h1 : Txt.rfind x "/" + 1 = i) (h2 : pickStr x none (some i) = hd) (h3 : hd.length ≤ 1000)
    (h4 : ((hd.length : Int) != 0 && (hd != mulS "/" hd.length)) = b) (h5 : (if b = true then Txt.rstripChars hd "/" else hd) = r)
    (m1 : ¬ (hd.length : Int) < 1 → ((hd.length : Int) == 1 || ("/" : Str).length == 0) = false → ¬ ((("/" : Str).length : Int) > (2 ^ 63 - 1) / (hd.length : Int)))
    (m2 : ¬ (hd.length : Int) < 1 → ((hd.length : Int) == 1 || ("/" : Str).length == 0) = false → Builtin.Str.tooLong (("/" : Str).length * ((hd.length : Int)).toNat) = false) (m3 : (mulS "/" hd.length).length ≤ sizeLine) : Cal c (.ref 274) [.str x] (.str r) := by
  have sl : ∀ n : Nat, n ≤ 1000 → n ≤ sizeLine := fun n h => Nat.le_trans h (by decide)
  refine' cal_def (xs := ["p"]) ?ho ?hcd hr.lim rfl ?hbind ?hkind ?hco ?hgen ?hk ?_; tb_start
  intro L base
  refine ss_assign (.inl ⟨rfl, rfl⟩) (evs (ev_call_def (ev_top ⟨rfl, rfl, rfl⟩ rfl (by k_is) rfl) (by k_is) (es_cons (ev_name rfl rfl rfl rfl) es_nil rfl) (c_fspath (hr.down.less (by decide)) x) (st1 rfl))) rfl ?_
  refine ss_assign (.inl ⟨rfl, rfl⟩) (evs (ev_call_def (ev_top ⟨rfl, rfl, rfl⟩ rfl (by k_is) rfl) (by k_is) (es_cons (ev_name rfl rfl rfl rfl) es_nil rfl) (c_get_sep (hr.down.less (by decide)) x) (st1 rfl))) rfl ?_
  refine ss_assign (.inl ⟨rfl, rfl⟩) (evs (ev_bin (ev_meth (ev_name rfl rfl rfl rfl) gm_rfind (es_cons (ev_name rfl rfl rfl rfl) es_nil rfl) cal_rfind rfl rfl rfl) ev_int op_add)) rfl ?_
  rw [h1]
  refine ss_assign (.inl ⟨rfl, rfl⟩) (evs (ev_slice_str (ev_name rfl rfl rfl rfl) ep_none (ep_some (ev_name rfl rfl rfl rfl)) (by rw [h2]; exact sl _ h3) h2)) rfl ?_
  refine ss_if (b := b) (evts ?_) ?_ ?_
  · rw [← h4]
    refine et_bool (eb_and (et_plain (ev_name rfl rfl rfl rfl) (tru_str (by omega)) rfl) fun _ => ?_)
    rw [← Bool.and_true (hd != mulS _ _)]
    refine eb_and (et_cmp (ev_name rfl rfl rfl rfl) (ev_bin (ev_name rfl rfl rfl rfl) (ev_call_builtin (ev_boot ⟨rfl, rfl, rfl⟩ rfl (by k_is) (by boot_by_name) (by decide) rfl) (es_cons (ev_name rfl rfl rfl rfl) es_nil rfl) (cal_len_str (by omega)) rfl rfl) (op_mul_str ?_ m1 m2 m3)) op_ne_str rfl) fun _ => eb_and_nil
    rw [decide_eq_false (by omega), decide_eq_false (by omega)]; rfl
  · intro hb
    rw [if_pos hb] at h5
    refine ss_assign (.inl ⟨rfl, rfl⟩) (evs (ev_meth (ev_name rfl rfl rfl rfl) gm_rstrip (es_cons (ev_name rfl rfl rfl rfl) es_nil rfl) (cal_rstrip (sl _ h3)) rfl rfl rfl)) rfl ?_
    rw [h5]
    exact ss_nil (ss_return (evs (ev_name rfl rfl rfl rfl)) rfl)
  · intro hb
    rw [if_neg (by rw [hb]; decide)] at h5
    subst h5
    exact ss_nil (ss_return (evs (ev_name rfl rfl rfl rfl)) rfl)
end Mine
end

-- C3
section
open PySem PySem.W PyProof.Rows PySem.W.X PySem.Calls PySem.Spec PySem.SeqAt
set_option Elab.async false
set_option maxRecDepth 100000
set_option maxHeartbeats 0
set_option linter.unusedVariables false
namespace Mine
theorem filled6 : PySem.Challenge.rw_in0208_01 = PySem.Challenge.rw_in0208_01 ∧ hd.heap_39 = hd.heap_39 := by k_fill; exact ⟨rfl, rfl⟩
theorem no_booked (p : Params) : nsIn (hd.heap_39 p) cStatics sharingNotToldKey = some none := by k_is
theorem KT.booked {w : World} {h : Heap} (x : KT w h) : NoneBooked h := by
  obtain ⟨X, mean, mg, mb, T⟩ := x
  obtain ⟨mc, n, _⟩ := T.nolimit
  exact ⟨mc, n, ns_none_of X n (no_booked w.params)⟩
theorem is_str {c : Cx} (hst : c.st = true) {A : Around} {D : Ad} {s : Shared} {va vb : Value} {x y : Str} {Q E : Value → Shared → Prop} (hs : HS c D s) (ra : Rd D s.heap va (.str x)) (rb : Rd D s.heap vb (.str y))
    (k : ∀ b, (b = true → x = y) → Q (.bool b) s) : wpAny (model P0 c.w) A (compareOp .Is va vb) Q E s := by
  obtain ⟨o, q⟩ := hs.tk.1 hst
  cases ra with | str _ t ta => ?_
  cases rb with | str _ u tb => ?_
  show wpAny _ A (isSame (.str x t) (.str y u) >>= fun b => (pure (Value.bool b) : Sem Value)) _ _ _
  refine wpAny_bind ?_
  show wpAny _ A (isSame.created (x == y) t u) _ _ _
  unfold isSame.created
  have h0 : (t == 0 || u == 0) = false := by
    rw [Bool.or_eq_false_iff]
    exact ⟨by simpa using (o.ub _ _ ta).1, by simpa using (o.ub _ _ tb).1⟩
  refine wpAny_ite ?_
  split
  · rename_i h; rw [h0] at h; exact absurd h Bool.false_ne_true
  refine wpAny_ite ?_
  split
  · rename_i h
    have e : t = u := by simpa using h
    subst e
    exact wpAny_pure (wpAny_pure (k _ fun _ => o.fn _ _ _ ta tb))
  refine wpAny_ite ?_
  split
  · exact wpAny_pure (wpAny_pure (k _ fun h => by cases h))
  rename_i h
  have e : x = y := by
    cases z : x == y with
    | true => exact beq_iff_eq.mp z
    | false => rw [z] at h; exact absurd rfl h
  refine wpAny_bind (wpAny_sharingNotTold_none hs.kt.booked ?_)
  first | rw [if_neg Bool.false_ne_true] | simp only [Bool.false_eq_true, if_false]
  refine wpAny_bind (wpAny_sharingNotTold_none hs.kt.booked ?_)
  first | rw [if_neg Bool.false_ne_true] | simp only [Bool.false_eq_true, if_false]
  exact wpAny_bind (wpAny_rule (wpAny_bind (wpAny_askSetting (wpAny_pure (wpAny_pure (k _ fun _ => e))))))
/-- a is b or a == b -/
theorem et_is_or {c : Cx} (hst : c.st = true) {ρ : Str → Option PD} {l r l' r' : Expr} {p p' q : Pos} {x y : Str} (hl : EvE c ρ l (.str x)) (hr : EvE c ρ r (.str y)) (hl' : EvE c ρ l' (.str x)) (hr' : EvE c ρ r' (.str y)) (hm : behindInMarks .Is r = false) (hm' : behindInMarks .Eq r' = false) :
    EvT c ρ (.BoolOp .Or [.Compare l [.Is] [r] p, .Compare l' [.Eq] [r'] p'] q) (x == y) := by
  intro A D s h Q E k
  refine isTrue_or ?_
  refine wpAny_isTrue_Compare1 ?_ hm
  refine hl A D s h _ _ fun va h₁ t₁ D₁ a₁ r₁ => ?_
  have H₁ : At c A D₁ { s with heap := h₁, toks := t₁ } ρ := h.aft a₁
  refine hr A D₁ _ H₁ _ _ fun vb h₂ t₂ D₂ a₂ r₂ => ?_
  have H₂ : At c A D₂ { s with heap := h₂, toks := t₂ } ρ := H₁.aft (s' := { s with heap := h₂, toks := t₂ }) a₂
  refine is_str hst H₂.hs (a₂.rd r₁) r₂ fun b hb => ?_
  refine wpAny_truthy_bool ?_
  cases b with
  | true =>
    have e := hb rfl
    subst e
    have := k h₂ t₂ D₂ (a₁.trans a₂)
    rw [beq_self_eq_true] at this
    exact this
  | false =>
    have z : EvB c ρ .Or [.Compare l' [.Eq] [r'] p'] (x == y) := by
      have z := eb_or (et_cmp (pos := p') hl' hr' op_eq_str hm') (fun _ => eb_or_nil)
      rw [Bool.or_false] at z
      exact z
    exact z A D₂ { s with heap := h₂, toks := t₂ } q _ H₂ _ _ fun h₃ t₃ D₃ a₃ => k h₃ t₃ D₃ (a₁.trans (Aft.trans a₂ a₃))
end Mine
end

-- E1
section
open PySem PySem.W PyProof.Rows PySem.W.X PySem.Calls PySem.Spec PySem.SeqAt
set_option Elab.async false
set_option maxRecDepth 100000
set_option maxHeartbeats 0
set_option linter.unusedVariables false
namespace Mine
/-- an inner iterator, as «enumerate» draws from it -/
structure NextS (w : World) (it : Addr) (ds : List PD) (St : Nat → Ad → Heap → Prop) : Prop where
  item : ∀ A i d D (s : Shared) (Q E : Value → Shared → Prop), ds[i]? = some d → St i D s.heap → (∀ v h', Rd D h' v d → St (i + 1) D h' → Heap.SameBut it s.heap h' → Q v { s with heap := h' }) → wpAny (model P0 w) A (Builtin.SmallTypes.nextOf (.ref it)) Q E s
  done : ∀ A D (s : Shared) (Q E : Value → Shared → Prop), A.handled = none → St ds.length D s.heap → (∀ h' e, Heap.ExtBut it s.heap h' → (∃ o, h'.get? e = some o ∧ o.cls = .type "StopIteration") → E (.ref e) { s with heap := h' }) → wpAny (model P0 w) A (Builtin.SmallTypes.nextOf (.ref it)) Q E s
  frame : ∀ i (D D' : Ad) h h', St i D h → (∀ a, D.p a → D'.p a) → (∀ t x, D.T t x → D'.T t x) → (∀ a o, D.p a ∨ a = it → h.get? a = some o → h'.get? a = some o) → ¬ D'.p it → St i D' h'
  ex : ∀ i D h, St i D h → ∃ o, h.get? it = some o
theorem next_list {w : World} {it ax : Addr} {its : Array Value} {ds : List PD} (hne : ax ≠ it) : NextS w it ds (fun i D h => (h.IsListIter it ax i ∧ h.IsList ax its) ∧ D.p ax ∧ ¬ D.p it ∧ RdAll D h its.toList ds) where
  item := by
    rintro A i d D s Q E hd ⟨⟨st, sl⟩, dax, dit, r⟩ k
    obtain ⟨v, hv, rv⟩ := r.get hd
    refine wpAny_nextOf_list_item st sl (x := v) (by rw [← Array.getElem?_toList]; exact hv) fun h' hit' hs' => ?_
    have kp : ∀ b o, D.p b → s.heap.get? b = some o → D.p b ∧ h'.get? b = some o := fun b o q e => ⟨q, hs'.extBut b o (fun z => dit (z ▸ q)) e⟩
    exact k v h' (rv.keep kp fun _ _ q => q) ⟨⟨hit', sl.extBut hs'.extBut hne⟩, dax, dit, r.keep kp fun _ _ q => q⟩ hs'
  done := by
    rintro A D s Q E hh ⟨⟨st, sl⟩, dax, dit, r⟩ k
    refine wpAny_nextOf_list_end hh st sl ?_ k
    have := r.length
    rw [Array.length_toList] at this
    rw [← this]; exact Array.getElem?_eq_none (Nat.le_refl _)
  frame := by
    rintro i D D' h h' ⟨st, dax, dit, r⟩ sub ts kp off
    exact ⟨⟨st.1.at fun o e => kp it o (.inr rfl) e, st.2.at fun o e => kp ax o (.inl dax) e⟩, sub _ dax, off, r.keep (fun a o q e => ⟨sub a q, kp a o (.inl q) e⟩) ts⟩
  ex := by rintro i D h ⟨⟨⟨o, e, _⟩, _⟩, _⟩; exact ⟨o, e⟩
theorem next_tuple {w : World} {it ax : Addr} {its : Array Value} {ds : List PD} (hne : ax ≠ it) : NextS w it ds (fun i D h => (h.IsTupleIter it ax i ∧ h.IsTuple ax its) ∧ D.p ax ∧ ¬ D.p it ∧ RdAll D h its.toList ds) where
  item := by
    rintro A i d D s Q E hd ⟨⟨st, sl⟩, dax, dit, r⟩ k
    obtain ⟨v, hv, rv⟩ := r.get hd
    obtain ⟨o, ho, hc, hdt⟩ := id st
    obtain ⟨ol, hol, _, nl, hdl⟩ := id sl
    have hx : its[i]? = some v := by rw [← Array.getElem?_toList]; exact hv
    unfold Builtin.SmallTypes.nextOf
    refine wpAny_bind (wpAny_callSpecial?_slot (name := Str.ofString "__next__") st.typeIs F.slot_tuple_iterator_next
      (wpAny_call_entry F.slot_tuple_iterator_next st.typeIs F.entry_tuple_iterator_next ?_ (F.args_tuple_iterator_next_1 _)))
    show wpAny _ _ (field (.ref it) 0 >>= _) _ _ s
    refine wpAny_bind (wpAny_field ho hdt (x := .ref ax) rfl ?_)
    show wpAny _ _ (if (Value.ref ax == Value.none) = true then _ else _) _ _ s
    rw [if_neg (show ¬ ((Value.ref ax == Value.none) = true) from Bool.false_ne_true)]
    show wpAny _ _ (field (.ref it) 1 >>= _) _ _ s
    refine wpAny_bind (wpAny_field ho hdt (x := .int i 0) rfl ?_)
    show wpAny _ _ (seqItems? (.ref ax) >>= _) _ _ s
    refine wpAny_bind (wpAny_seqItems hol hdl ?_)
    simp only [Int.toNat_natCast, hx]
    refine wpAny_bind (wpAny_setField ho hdt (by simp) (wpAny_pure ⟨v, rfl, wpAny_pure ?_⟩))
    have hs' : Heap.SameBut it s.heap (s.heap.update it (Obj.mapFields fun vs => vs.setIfInBounds 1 (rawInt (i + 1)))) := Heap.SameBut.update ..
    have kp : ∀ b o, D.p b → s.heap.get? b = some o → D.p b ∧ (s.heap.update it (Obj.mapFields fun vs => vs.setIfInBounds 1 (rawInt (i + 1)))).get? b = some o := fun b o q e => ⟨q, hs'.extBut b o (fun z => dit (z ▸ q)) e⟩
    refine k v _ (rv.keep kp fun _ _ q => q) ⟨⟨⟨_, Heap.get?_update_self _ ho (Obj.isFreed_of_fields (Obj.data_mapFields hdt _)), (Obj.cls_mapFields ..).trans hc, by
      rw [Obj.data_mapFields hdt]; simp [rawInt]⟩, sl.extBut hs'.extBut hne⟩, dax, dit, r.keep kp fun _ _ q => q⟩ hs'
  done := by
    rintro A D s Q E hh ⟨⟨st, sl⟩, dax, dit, r⟩ k
    obtain ⟨o, ho, hc, hdt⟩ := id st
    obtain ⟨ol, hol, _, nl, hdl⟩ := id sl
    have hx : its[ds.length]? = none := by
      have := r.length
      rw [Array.length_toList] at this
      rw [← this]; exact Array.getElem?_eq_none (Nat.le_refl _)
    unfold Builtin.SmallTypes.nextOf
    refine wpAny_bind (wpAny_callSpecial?_slot (name := Str.ofString "__next__") st.typeIs F.slot_tuple_iterator_next
      (wpAny_call_entry F.slot_tuple_iterator_next st.typeIs F.entry_tuple_iterator_next ?_ (F.args_tuple_iterator_next_1 _)))
    show wpAny _ _ (field (.ref it) 0 >>= _) _ _ s
    refine wpAny_bind (wpAny_field ho hdt (x := .ref ax) rfl ?_)
    show wpAny _ _ (if (Value.ref ax == Value.none) = true then _ else _) _ _ s
    rw [if_neg (show ¬ ((Value.ref ax == Value.none) = true) from Bool.false_ne_true)]
    show wpAny _ _ (field (.ref it) 1 >>= _) _ _ s
    refine wpAny_bind (wpAny_field ho hdt (x := .int ds.length 0) rfl ?_)
    show wpAny _ _ (seqItems? (.ref ax) >>= _) _ _ s
    refine wpAny_bind (wpAny_seqItems hol hdl ?_)
    simp only [Int.toNat_natCast, hx]
    refine wpAny_bind (wpAny_rule (wpAny_bind (wpAny_setField ho hdt (by simp) ?_)))
    show wpAny _ _ (newExc (.type "StopIteration") [] >>= _) _ _ _
    refine wpAny_bind ?_
    simp only [newExc, newTuple]
    refine wpAny_bind (wpAny_newObj_type ?_ (by size_fits))
    refine wpAny_bind (m := firstArgMember _ _) (wpAny_of_eq (a := Value.none) (by first | rfl | (simp only [firstArgMember]; rfl)) ?_)
    refine wpAny_newObj_type ?_ (by size_fits)
    simp only [raiseNew]
    refine wpAny_bind (wpAny_handled ?_)
    first | rw [show A.in1.handled = none from hh] | rw [hh]
    refine wpAny_bind (wpAny_pure (wpAny_throw ?_))
    exact k _ _ (((Heap.SameBut.update ..).extBut.push _).push _) ⟨_, Heap.get?_push_size _ rfl, rfl⟩
  frame := by
    rintro i D D' h h' ⟨st, dax, dit, r⟩ sub ts kp off
    exact ⟨⟨st.1.at fun o e => kp it o (.inr rfl) e, st.2.at fun o e => kp ax o (.inl dax) e⟩, sub _ dax, off, r.keep (fun a o q e => ⟨sub a q, kp a o (.inl q) e⟩) ts⟩
  ex := by rintro i D h ⟨⟨⟨o, e, _⟩, _⟩, _⟩; exact ⟨o, e⟩
/-- a turn of «enumerate» -/
theorem enum_item {w : World} {it e : Addr} {ds : List PD} {St : Nat → Ad → Heap → Prop} (N : NextS w it ds St) (hne : e ≠ it) {A : Around} {i : Nat} {d : PD} {D : Ad} {s : Shared} {old : Value} (hd : ds[i]? = some d) (st : St i D s.heap) (he : IsEnum s.heap e it i old) (dE : ¬ D.p e) (dI : ¬ D.p it)
    {Q : Option Value → Shared → Prop} {E : Value → Shared → Prop}
    (hQ : ∀ v T h', Rd D h' v d → St (i + 1) D h' → IsEnumOut h' e it ((i : Int) + 1) v T → h'.get? T = some { cls := .type "tuple", data := .seq #[.int i s.toks, v] } → s.heap.get? T = none →
      (∀ b o, b ≠ e → b ≠ it → s.heap.get? b = some o → h'.get? b = some o) → Q (some (.ref T)) { s with heap := h', toks := s.toks + 1 }) : wpAny (model P0 w) A (pyNext (.ref e)) Q E s := by
  have hT : s.TypeIs (.ref e) "enumerate" := ⟨_, he, rfl⟩
  unfold pyNext
  refine wpAny_bind (wpAny_attempt (wpAny_callSpecial?_slot (name := Str.ofString "__next__") hT F.slot_enumerate_next
    (wpAny_call_entry F.slot_enumerate_next hT F.entry_enumerate_next ?_ (F.args_enumerate_next_1 _))))
  obtain ⟨hp, g, dr, tk, os⟩ := s
  show wpAny _ _ (field (.ref e) 2 >>= _) _ _ _
  refine wpAny_bind (wpAny_field he rfl (x := .ref it) rfl ?_)
  refine wpAny_bind (N.item _ i d D ⟨hp, g, dr, tk, os⟩ _ _ hd st fun v h₁ rv st₁ hs₁ => ?_)
  replace hs₁ : Heap.SameBut it hp h₁ := hs₁
  have he₁ : IsEnum h₁ e it i old := (hs₁.2 e hne).trans he
  show wpAny _ _ (field (.ref e) 3 >>= _) _ _ ⟨h₁, g, dr, tk, os⟩
  refine wpAny_bind (wpAny_field he₁ rfl (x := rawInt i) rfl ?_)
  show wpAny _ _ (field (.ref e) 4 >>= _) _ _ ⟨h₁, g, dr, tk, os⟩
  refine wpAny_bind (wpAny_field he₁ rfl (x := .none) rfl ?_)
  show wpAny _ _ (mkInt i >>= _) _ _ ⟨h₁, g, dr, tk, os⟩
  refine wpAny_bind (wpAny_mkInt ?_)
  show wpAny _ _ (setField (.ref e) 3 (rawInt ((i : Int) + 1)) >>= _) _ _ ⟨h₁, g, dr, tk + 1, os⟩
  refine wpAny_bind (wpAny_setField_rec he₁ (by simp) fun h₂ he₂ hs₂ => ?_)
  replace hs₂ : Heap.SameBut e h₁ h₂ := hs₂
  replace he₂ : IsEnum h₂ e it ((i : Int) + 1) old := he₂
  show wpAny _ _ (setField (.ref e) 4 .none >>= _) _ _ ⟨h₂, g, dr, tk + 1, os⟩
  refine wpAny_bind (wpAny_setField_rec he₂ (by simp) fun h₃ he₃ hs₃ => ?_)
  replace hs₃ : Heap.SameBut e h₂ h₃ := hs₃
  replace he₃ : IsEnum h₃ e it ((i : Int) + 1) old := he₃
  have b13 : Heap.ExtBut e h₁ h₃ := fun b o q z => hs₃.extBut b o q (hs₂.extBut b o q z)
  show wpAny _ _ (newTuple [.int i tk, v] >>= _) _ _ ⟨h₃, g, dr, tk + 1, os⟩
  refine wpAny_bind (wpAny_newTuple ?_)
  generalize hTT : h₃.objs.size = T
  have frT : hp.get? T = none := by
    cases q : hp.get? T with
    | none => rfl
    | some o => have := Heap.lt_size q; rw [← hTT, hs₃.1, hs₂.1, hs₁.1] at this; exact absurd this (Nat.lt_irrefl _)
  have eT : e ≠ T := fun z => by rw [← z, he] at frT; cases frT
  have iT : it ≠ T := fun z => by obtain ⟨o, q⟩ := N.ex _ _ _ st; rw [z, frT] at q; cases q
  have he₄ : IsEnum (h₃.push { cls := .type "tuple", data := .seq #[.int i tk, v] }) e it ((i : Int) + 1) old := Heap.get?_push_of_some _ he₃
  have ht₄ : (h₃.push { cls := .type "tuple", data := .seq #[.int i tk, v] }).get? T = some { cls := .type "tuple", data := .seq #[.int i tk, v] } := by rw [← hTT]; exact Heap.get?_push_size _ rfl
  have b14 : Heap.ExtBut e h₁ (h₃.push { cls := .type "tuple", data := .seq #[.int i tk, v] }) := fun b o q z => Heap.get?_push_of_some _ (b13 b o q z)
  generalize h₃.push { cls := .type "tuple", data := .seq #[.int i tk, v] } = h₄ at he₄ ht₄ b14
  show wpAny _ _ (Builtin.SmallTypes.ownedTupleIsFree (.ref e) >>= _) _ _ ⟨h₄, g, dr, tk + 1, os⟩
  refine wpAny_bind ?_
  unfold Builtin.SmallTypes.ownedTupleIsFree
  refine wpAny_bind (wpAny_field he₄ rfl (x := .none) rfl (wpAny_pure ?_))
  simp only [if_true]
  refine wpAny_bind (wpAny_rule ?_)
  refine wpAny_bind (wpAny_field he₄ rfl (x := old) rfl ?_)
  refine wpAny_bind (wpAny_setField_rec he₄ (by simp) fun h₅ he₅ hs₅ => ?_)
  replace hs₅ : Heap.SameBut e h₄ h₅ := hs₅
  replace he₅ : IsEnum h₅ e it ((i : Int) + 1) v := he₅
  show wpAny _ _ (Builtin.SmallTypes.ownedTupleHandOut (.ref e) (.ref T) >>= _) _ _ ⟨h₅, g, dr, tk + 1, os⟩
  refine wpAny_bind ?_
  unfold Builtin.SmallTypes.ownedTupleHandOut
  refine wpAny_bind (wpAny_setField_rec he₅ (by simp) fun h₆ he₆ hs₆ => ?_)
  replace hs₆ : Heap.SameBut e h₅ h₆ := hs₆
  replace he₆ : IsEnumOut h₆ e it ((i : Int) + 1) v T := he₆
  refine wpAny_setField_rec he₆ (by simp) fun h₇ he₇ hs₇ => ?_
  replace hs₇ : Heap.SameBut e h₆ h₇ := hs₇
  replace he₇ : IsEnumOut h₇ e it ((i : Int) + 1) v T := he₇
  have b47 : Heap.ExtBut e h₄ h₇ := fun b o q z => hs₇.extBut b o q (hs₆.extBut b o q (hs₅.extBut b o q z))
  have b17 : Heap.ExtBut e h₁ h₇ := fun b o q z => b47 b o q (b14 b o q z)
  have kD : ∀ b o, D.p b → h₁.get? b = some o → D.p b ∧ h₇.get? b = some o := fun b o q z => ⟨q, b17 b o (fun y => dE (y ▸ q)) z⟩
  refine wpAny_bind (wpAny_letGo (wpAny_pure ⟨_, rfl, wpAny_pure (hQ v T h₇ (rv.keep kD fun _ _ q => q) ?_ he₇ ?_ frT ?_)⟩))
  · exact N.frame _ D D h₁ h₇ st₁ (fun _ q => q) (fun _ _ q => q) (fun b o q z => b17 b o (fun y => q.elim (fun q => dE (y ▸ q)) fun q => hne (y ▸ q)) z) dI
  · exact b47 T _ (Ne.symm eT) ht₄
  · exact fun b o q q' z => b17 b o q (hs₁.extBut b o q' z)
theorem enum_end {w : World} {it e : Addr} {ds : List PD} {St : Nat → Ad → Heap → Prop} (N : NextS w it ds St) {A : Around} (hh : A.handled = none) {i : Int} {D : Ad} {s : Shared} {old : Value} (st : St ds.length D s.heap) (he : IsEnum s.heap e it i old)
    {Q : Option Value → Shared → Prop} {E : Value → Shared → Prop} (hQ : ∀ h', Heap.ExtBut it s.heap h' → Q none { s with heap := h' }) : wpAny (model P0 w) A (pyNext (.ref e)) Q E s := by
  have hT : s.TypeIs (.ref e) "enumerate" := ⟨_, he, rfl⟩
  unfold pyNext
  refine wpAny_bind (wpAny_attempt (wpAny_callSpecial?_slot (name := Str.ofString "__next__") hT F.slot_enumerate_next
    (wpAny_call_entry F.slot_enumerate_next hT F.entry_enumerate_next ?_ (F.args_enumerate_next_1 _))))
  show wpAny _ _ (field (.ref e) 2 >>= _) _ _ _
  refine wpAny_bind (wpAny_field he rfl (x := .ref it) rfl ?_)
  refine wpAny_bind (N.done _ D s _ _ hh st fun h' x he' hx' => ?_)
  obtain ⟨o, ho, hc⟩ := hx'
  refine wpAny_bind (wpAny_isInstance (T := "StopIteration") (b := true) ⟨o, ho, hc⟩ isSubtype_stop ?_)
  exact wpAny_pure (hQ _ he')
end Mine
end

-- E2
section
open PySem PySem.W PyProof.Rows PySem.W.X PySem.Calls PySem.Spec PySem.SeqAt
set_option Elab.async false
set_option maxRecDepth 100000
set_option maxHeartbeats 0
set_option linter.unusedVariables false
namespace Mine
def enumD (ds : List PD) : List PD := ds.mapIdx fun i d => .tuple [.int i, d]
theorem enumD_len (ds : List PD) : (enumD ds).length = ds.length := by simp [enumD]
theorem enumD_get {ds : List PD} {i : Nat} {d' : PD} (h : (enumD ds)[i]? = some d') : ∃ d, ds[i]? = some d ∧ d' = .tuple [.int i, d] := by
  unfold enumD at h
  rw [List.getElem?_mapIdx] at h
  cases q : ds[i]? with
  | none => rw [q] at h; cases h
  | some d => rw [q] at h; exact ⟨d, rfl, (Option.some.inj h).symm⟩
theorem src_enum {w : World} {A : Around} (hh : A.handled = none) {it e : Addr} {ds : List PD} {St : Nat → Ad → Heap → Prop} (N : NextS w it ds St) (hne : e ≠ it) {elts : List Expr} {x1 : Nat} {pos : Pos} :
    Src w A (.Tuple elts x1 pos) e (fun a => a = e ∨ a = it) (enumD ds) (fun i D h => (∃ old, IsEnum h e it i old) ∧ St i D h ∧ ¬ D.p e ∧ ¬ D.p it) where
  item := by
    rintro i d' D s X Y E hd ⟨⟨old, he⟩, st, dE, dI⟩ k
    obtain ⟨d, hd₀, rfl⟩ := enumD_get hd
    refine enum_item N hne hd₀ st he dE dI fun v T h' rv st' he' hT frT kp => ?_
    refine wpAny_letOwnedTupleGo_enum he' fun h'' he'' hs'' => ?_
    replace hs'' : Heap.SameBut e h' h'' := hs''
    have eT : T ≠ e := fun z => by rw [z, he] at frT; cases frT
    have iT : T ≠ it := fun z => by obtain ⟨o, q⟩ := N.ex _ _ _ st; rw [z, q] at frT; cases frT
    have kD : ∀ b o, D.p b → h'.get? b = some o → (D.or fun a => a = T).p b ∧ h''.get? b = some o := fun b o q z => ⟨.inl q, hs''.extBut b o (fun y => dE (y ▸ q)) z⟩
    refine k (.ref T) h'' (s.toks + 1) (D.or fun a => a = T) (.tuple (.inr rfl) (hs''.extBut _ _ eT hT) (.cons (.int _ _) (.cons (rv.keep kD fun _ _ q => q) .nil))) ⟨⟨v, he''⟩, ?_, ?_, ?_⟩ ⟨fun b o q z => ?_, fun b o z => ?_, fun _ q => .inl q, fun b q => ?_, fun _ _ q => q, Nat.le_succ _, fun o q => ⟨⟨o.fn, o.ub, o.pos⟩, Nat.le_succ_of_le q⟩⟩
    · exact N.frame _ D (D.or fun a => a = T) h' h'' st' (fun _ q => .inl q) (fun _ _ q => q) (fun b o q z => hs''.extBut b o (fun y => q.elim (fun q => dE (y ▸ q)) fun q => hne (y ▸ q)) z) fun q => q.elim dI fun q => iT q.symm
    · exact fun q => q.elim dE fun q => eT q.symm
    · exact fun q => q.elim dI fun q => iT q.symm
    · exact hs''.extBut b o (fun y => q (.inl y)) (kp b o (fun y => q (.inl y)) (fun y => q (.inr y)) z)
    · by_cases q : b = e
      · subst q; exact ⟨_, he''⟩
      · by_cases q' : b = it
        · subst q'
          obtain ⟨o', z'⟩ := N.ex _ _ _ st'
          exact ⟨o', hs''.extBut _ _ q z'⟩
        · exact ⟨o, hs''.extBut b o q (kp b o q q' z)⟩
    · rcases q with q | rfl
      · exact .inl q
      · exact .inr ⟨frT, _, hs''.extBut _ _ eT hT⟩
  done := by
    rintro D s X Y E ⟨⟨old, he⟩, st, dE, dI⟩ k
    rw [enumD_len] at st he
    exact enum_end N hh st he fun h' he' => k h' s.toks (Nat.le_refl _) fun b o q z => he' b o (fun y => q (.inr y)) z
  frame := by
    rintro i D D' h h' ⟨⟨old, he⟩, st, dE, dI⟩ sub ts kp off
    exact ⟨⟨old, kp e _ (.inr (.inl rfl)) he⟩, N.frame i D D' h h' st sub ts (fun a o q z => kp a o (q.imp id fun q => .inr q) z) (off it (.inr rfl)), off e (.inl rfl), off it (.inr rfl)⟩
theorem meets_enumerate_newT (l : Addr) (items : Array Value) (n : Nat) :
    Meets (Builtin.«enumerate.__new__» ⟨[.type "enumerate", .ref l], []⟩) (fun _ R s => s.heap.get? l = some { cls := .type "tuple", dict := none, data := .seq items n, slots := #[] } ∧
      R (.ok (.ret (.ref (s.heap.push { cls := .type "tuple_iterator", data := .fields #[.ref l, .int 0 0] }).objs.size)))
        { s with heap := (s.heap.push { cls := .type "tuple_iterator", data := .fields #[.ref l, .int 0 0] }).push { cls := .type "enumerate", data := .fields #[.none, .bool false, .ref s.heap.objs.size, rawInt 0, .none, .none] } }) :=
  .of_wp fun prog w A R s h => by
    obtain ⟨hp, g, d, tk, os⟩ := s; obtain ⟨hl, h⟩ := h
    have hsub := sub_enumerate
    have hL : Heap.IsTuple (Shared.heap ⟨hp, g, d, tk, os⟩) l items := ⟨_, hl, rfl, n, rfl⟩
    wp_walk using AutoSeq1.wpAny_loadPart' hl
    refine wpAny_stack_any fun st => wpAny_pure ?_
    split
    · rename_i c _ _ _ _ _
      cases (c == Value.type "enumerate")
      · wp_walk using AutoSeq1.wpAny_loadPart' hl, wpAny_pyIter_tuple hL
        exact ⟨_, rfl, h⟩
      · wp_walk using AutoSeq1.wpAny_loadPart' hl, wpAny_pyIter_tuple hL
        exact ⟨_, rfl, h⟩
    · wp_walk using AutoSeq1.wpAny_loadPart' hl, wpAny_pyIter_tuple hL
      exact ⟨_, rfl, h⟩
theorem call_enumerate_tuple {w : World} {A : Around} {s : Shared} {l : Addr} {items : Array Value} {n : Nat} {Q E : Value → Shared → Prop} (hl : s.heap.get? l = some { cls := .type "tuple", dict := none, data := .seq items n, slots := #[] })
    (h : ∀ h', IsEnum h' (s.heap.objs.size + 1) s.heap.objs.size 0 .none → h'.IsTupleIter s.heap.objs.size l 0 → (∀ b o, s.heap.get? b = some o → h'.get? b = some o) → Q (.ref (s.heap.objs.size + 1)) { s with heap := h' }) :
    wpAny (model P0 w) A (call (.type "enumerate") [.ref l]) Q E s := by
  refine callType_new F.called_enumerate (by decide) (F.typeCall_enumerate_1 _) (F.newCall_enumerate_1 _) (fun obj => F.args_object_init_2 obj _) F.entry_enumerate_new
    (meets_enumerate_newT l items n) ⟨hl, ?_⟩
  have hz : (s.heap.push { cls := .type "tuple_iterator", data := .fields #[.ref l, .int 0 0] }).objs.size = s.heap.objs.size + 1 := Heap.size_push ..
  show _ ∧ _
  rw [hz]
  have he : IsEnum ((s.heap.push { cls := .type "tuple_iterator", data := .fields #[.ref l, .int 0 0] }).push
      { cls := .type "enumerate", data := .fields #[.none, .bool false, .ref s.heap.objs.size, rawInt 0, .none, .none] }) (s.heap.objs.size + 1) s.heap.objs.size 0 .none := by
    have := Heap.get?_push_size (s.heap.push { cls := .type "tuple_iterator", data := .fields #[.ref l, .int 0 0] })
      (o := { cls := .type "enumerate", data := .fields #[.none, .bool false, .ref s.heap.objs.size, rawInt 0, .none, .none] }) rfl
    rw [hz] at this; exact this
  exact ⟨⟨_, he, rfl⟩, h _ he ⟨_, Heap.get?_push_of_some _ (Heap.get?_push_size _ rfl), rfl, rfl⟩ fun b o x => Heap.get?_push_of_some _ (Heap.get?_push_of_some _ x)⟩
section
variable {c : Cx} {ρ : Str → Option PD}
theorem ei_enum_list {y : Str} {p' pos : Pos} {e : Expr} {ds : List PD} {elts : List Expr} {x1 : Nat} {tp : Pos} (hf : EvV c (.Name y p') (.type "enumerate")) (he : EvE c ρ e (.list ds))
    (h1 : starEach [e] c.env = (false, eval e c.env) :: starEach [] c.env) : EvI c ρ (.Tuple elts x1 tp) (.Call (.Name y p') [e] [] pos) (enumD ds) := by
  intro A D s Q E a k
  refine Call_ ?_
  refine hf A s _ _ a.hs.kt ?_
  refine PyProof.Rows.callWith_type1 ?_ h1 rfl
  refine args_cons ?_ h1
  refine he A D s a _ _ fun v h₁ t₁ D₁ a₁ r₁ => ?_
  refine args_nil ?_
  cases r₁ with
  | list da o r =>
    rename_i ax its n
    refine call_enumerate_list ⟨_, o, rfl, n, rfl⟩ fun h₂ he₂ hi₂ _ g₂ => ?_
    refine wpAny_pyIter_enum he₂ ?_
    have hs₁ : HS c D₁ { s with heap := h₁, toks := t₁ } := a.hs.aft a₁
    have g : Grown h₁ h₂ := g₂
    have nd : ∀ b, h₁.objs.size ≤ b → ¬ D₁.p b := fun b hb q => by obtain ⟨o, e⟩ := hs₁.dl _ q; exact absurd (Heap.lt_size e) (Nat.not_lt.mpr hb)
    have fr : ∀ b, h₁.objs.size ≤ b → s.heap.get? b = none := fun b hb => by
      cases q : s.heap.get? b with
      | none => rfl
      | some o => exact absurd (Heap.lt_size (a₁.grown _ _ q)) (Nat.not_lt.mpr hb)
    have hlt : ax < h₁.objs.size := Heap.lt_size o
    refine k _ _ _ h₂ t₁ D₁ (src_enum a.ok.h (next_list (ax := ax) (its := its) (Nat.ne_of_lt hlt)) (by show h₁.objs.size + 1 ≠ h₁.objs.size; omega)) ⟨⟨.none, he₂⟩, ⟨⟨hi₂, ⟨_, g _ _ o, rfl, n, rfl⟩⟩, da, nd _ (Nat.le_refl _), (Aft.of_grown (D := D₁) (n := 0) (n' := 0) g).rdAll r⟩, nd _ (Nat.le_succ _), nd _ (Nat.le_refl _)⟩ (a₁.trans (Aft.of_grown g)) fun b q => ?_
    rcases q with rfl | rfl
    · exact ⟨fr _ (Nat.le_succ _), nd _ (Nat.le_succ _), _, he₂⟩
    · obtain ⟨o', e', _⟩ := hi₂
      exact ⟨fr _ (Nat.le_refl _), nd _ (Nat.le_refl _), o', e'⟩
theorem ei_enum_tuple {y : Str} {p' pos : Pos} {e : Expr} {ds : List PD} {elts : List Expr} {x1 : Nat} {tp : Pos} (hf : EvV c (.Name y p') (.type "enumerate")) (he : EvE c ρ e (.tuple ds))
    (h1 : starEach [e] c.env = (false, eval e c.env) :: starEach [] c.env) : EvI c ρ (.Tuple elts x1 tp) (.Call (.Name y p') [e] [] pos) (enumD ds) := by
  intro A D s Q E a k
  refine Call_ ?_
  refine hf A s _ _ a.hs.kt ?_
  refine PyProof.Rows.callWith_type1 ?_ h1 rfl
  refine args_cons ?_ h1
  refine he A D s a _ _ fun v h₁ t₁ D₁ a₁ r₁ => ?_
  refine args_nil ?_
  cases r₁ with
  | tuple da o r =>
    rename_i ax its n
    refine call_enumerate_tuple o fun h₂ he₂ hi₂ g₂ => ?_
    refine wpAny_pyIter_enum he₂ ?_
    have hs₁ : HS c D₁ { s with heap := h₁, toks := t₁ } := a.hs.aft a₁
    have g : Grown h₁ h₂ := g₂
    have nd : ∀ b, h₁.objs.size ≤ b → ¬ D₁.p b := fun b hb q => by obtain ⟨o, e⟩ := hs₁.dl _ q; exact absurd (Heap.lt_size e) (Nat.not_lt.mpr hb)
    have fr : ∀ b, h₁.objs.size ≤ b → s.heap.get? b = none := fun b hb => by
      cases q : s.heap.get? b with
      | none => rfl
      | some o => exact absurd (Heap.lt_size (a₁.grown _ _ q)) (Nat.not_lt.mpr hb)
    have hlt : ax < h₁.objs.size := Heap.lt_size o
    refine k _ _ _ h₂ t₁ D₁ (src_enum a.ok.h (next_tuple (ax := ax) (its := its) (Nat.ne_of_lt hlt)) (by show h₁.objs.size + 1 ≠ h₁.objs.size; omega)) ⟨⟨.none, he₂⟩, ⟨⟨hi₂, ⟨_, g _ _ o, rfl, n, rfl⟩⟩, da, nd _ (Nat.le_refl _), (Aft.of_grown (D := D₁) (n := 0) (n' := 0) g).rdAll r⟩, nd _ (Nat.le_succ _), nd _ (Nat.le_refl _)⟩ (a₁.trans (Aft.of_grown g)) fun b q => ?_
    rcases q with rfl | rfl
    · exact ⟨fr _ (Nat.le_succ _), nd _ (Nat.le_succ _), _, he₂⟩
    · obtain ⟨o', e', _⟩ := hi₂
      exact ⟨fr _ (Nat.le_refl _), nd _ (Nat.le_refl _), o', e'⟩
end
end Mine
end

-- C4
section
open PySem PySem.W PyProof.Rows PySem.W.X PySem.Calls PySem.Spec PySem.SeqAt
set_option Elab.async false
set_option maxRecDepth 100000
set_option maxHeartbeats 0
set_option linter.unusedVariables false
namespace Mine
theorem filled7 : PySem.Challenge.rw_in0208_01 = PySem.Challenge.rw_in0208_01 ∧ hd.heap_39 = hd.heap_39 := by k_fill; exact ⟨rfl, rfl⟩
-- tb_start: the sides of «cal_def»
local macro_rules | `(tactic| tb_start) => `(tactic| ((case ho => k_dflt k_is); (case hcd => k_dflt k_is); (case hbind => first | exact bt1 fun _ => rfl | exact bt2 fun _ _ => rfl | exact bt3 fun _ _ _ => rfl | exact bt4 fun _ _ _ _ => rfl | exact bt0 rfl); (case hkind => exact fun _ => rfl); (case hco => exact rfl); (case hgen => exact rfl); (case hk => exact rfl)))
theorem c_indexOf {c : Cx} (hr : Rm c 1) (hst : c.st = true) (xs : List Str) (y : Str) (k : Nat) (hk : xs[k]? = some y) (hno : ∀ i, i < k → xs[i]? ≠ some y) : Cal c (.ref 166) [.list (xs.map .str), .str y] (.int k) := by
  refine' cal_def (xs := ["a", "b"]) ?ho ?hcd hr.lim rfl ?hbind ?hkind ?hco ?hgen ?hk ?_; tb_start
  intro L base
  refine ss_for (ds := enumD (xs.map .str)) (ei_enum_list (ev_boot ⟨rfl, rfl, rfl⟩ rfl (by k_is) (by boot_by_name) (by decide) rfl) (ev_name rfl rfl rfl rfl) rfl)
    (fun n ρ' => ρ' "b" = some (.dat (.str y)) ∧ ∀ m, m < n → xs[m]? ≠ some y) ⟨rfl, fun m h => absurd h (Nat.not_lt_zero _)⟩ ?_ ?_ (fun _ => rfl)
  · rintro i d ρ' hd ⟨hb, hm⟩
    obtain ⟨d, hd₀, rfl⟩ := enumD_get hd
    rw [List.getElem?_map] at hd₀
    obtain ⟨x, hx, rfl⟩ := Option.map_eq_some_iff.mp hd₀
    refine ⟨_, asg_tuple (asgs_cons (asg_name (.inl ⟨rfl, rfl⟩)) (asgs_cons (asg_name (.inl ⟨rfl, rfl⟩)) asgs_nil rfl) rfl) rfl rfl, ?_⟩
    refine ss_if (b := x == y) (evts ?_) ?_ ?_
    · refine et_is_or (x := x) (y := y) ?_ ?_ ?_ ?_ ?_ ?_ ?_
      · exact hst
      · exact ev_name rfl rfl rfl rfl
      · exact ev_name rfl rfl rfl (alls_of hb)
      · exact ev_name rfl rfl rfl rfl
      · exact ev_name rfl rfl rfl (alls_of hb)
      · rfl
      · rfl
    · intro e
      have e := beq_iff_eq.mp e
      subst e
      have : i = k := by
        rcases Nat.lt_trichotomy i k with h | h | h
        · exact absurd hx (hno i h)
        · exact h
        · exact absurd hk (hm k h)
      subst this
      exact ss_return (evs (ev_name rfl rfl rfl rfl)) rfl
    · intro e
      refine ss_nil (ss_nil ⟨hb, fun m h => ?_⟩)
      rcases Nat.lt_succ_iff_lt_or_eq.mp h with h | rfl
      · exact hm m h
      · rw [hx]
        intro q
        rw [Option.some.inj q, beq_self_eq_true] at e
        cases e
  · rintro ρ' ⟨hb, hm⟩
    rw [enumD_len, List.length_map] at hm
    exact absurd hk (hm k (List.getElem?_eq_some_iff.mp hk).1)
end Mine
end

-- F10
section
open PySem PySem.W PyProof.Rows PySem.W.X PySem.Calls PySem.Spec PySem.SeqAt
set_option Elab.async false
set_option maxRecDepth 100000
set_option maxHeartbeats 0
set_option linter.unusedVariables false
namespace Mine
/-- storing an item, with the object as it is afterwards -/
theorem setItem_exactI {w : World} {A : Around} {s : Shared} {l : Addr} {vs : Array Value} {n : Nat} {k : Int} {t : Tok} {v : Value} {Q : Unit → Shared → Prop} {E : Value → Shared → Prop} (hl : s.heap.get? l = some ⟨.type "list", none, .seq vs n, #[]⟩) (h0 : 0 ≤ k) (hfit : k < 2 ^ 63) (hn : k < vs.size)
    (hQ : ∀ h' n', h'.get? l = some ⟨.type "list", none, .seq (vs.setIfInBounds k.toNat v) n', #[]⟩ → (∀ b, b ≠ l → h'.get? b = s.heap.get? b) → Q () { s with heap := h' }) : wpAny (model P0 w) A (setItem (.ref l) (.int k t) v) Q E s := by
  have isl : s.heap.IsList l vs := ⟨_, hl, rfl, n, rfl⟩
  unfold setItem
  try with_reducible refine wpAny_holding ?_
  first | refine wpAny_bind (wpAny_pure ?_) | skip
  refine wpAny_bind (wpAny_sequenceKey isl.typeIs (by decide) ?_)
  refine wpAny_bind (wpAny_callSpecial?_slot (name := Str.ofString "__setitem__") isl.typeIs slot_list_setitem
    (wpAny_call_entry slot_list_setitem isl.typeIs entry_list_setitem ?_ (args_list_setitem _ _ _)))
  show wpAny _ _ (Builtin.List.listSubscript? (.int k t) >>= _) _ _ s
  refine wpAny_bind (wpAny_listSubscript_int (fitsIndex_of h0 hfit) ?_)
  clear hfit
  obtain ⟨j, rfl⟩ := Int.eq_ofNat_of_zero_le h0
  have hj : j < vs.size := by omega
  have hx : vs[j]? = some vs[j] := Array.getElem?_eq_getElem hj
  show wpAny _ _ ((seqItemAt l j >>= fun r => pure (r.map (j, ·))) >>= _) _ _ s
  refine wpAny_bind (wpAny_bind (wpAny_seqItemAt hl rfl (wpAny_pure ?_)))
  rw [hx]
  show wpAny _ _ (setSeqItemAt l j v >>= _) _ _ s
  have fin := hQ (s.heap.update l (Obj.mapSeq (·.setIfInBounds j v))) _ (IsL.update (f := fun xs => xs.setIfInBounds j v) hl) fun b q => Heap.get?_update_other _ _ (Ne.symm q)
  refine wpAny_bind (wpAny_setSeqItemAt hl rfl ?_)
  first
    | exact wpAny_bind (wpAny_pure (wpAny_pure ⟨.none, rfl, wpAny_pure fin⟩))
    | exact wpAny_pure ⟨.none, rfl, wpAny_pure fin⟩

section
variable {c : Cx} {W : Pr} {base : Heap} {D D' : Ad} {h h' : Heap} {ρ : Nm} {P : PF → Nm → Prop}
theorem VarAt.write {env : Env} {b : Addr} {vs : Array Value} {n : Nat} {x : Str} {v : Value} (q : VarAt env h x v) (ho : h.get? b = some ⟨.type "list", none, .seq vs n, #[]⟩) (hs : ∀ a o, a ≠ b → h.get? a = some o → h'.get? a = some o) : VarAt env h' x v := by
  rcases q with ⟨k, m, nn, e⟩ | ⟨k, cc, e, o, e2, d2⟩
  · refine .inl ⟨k, m, nn.at' fun o e => hs _ o (fun q => ?_) e, e⟩
    obtain ⟨o, es, ep, e1, d1, _⟩ := nn
    rw [q, ho] at e1; cases e1; cases d1
  · refine .inr ⟨k, cc, e, o, hs _ o (fun q => ?_) e2, d2⟩
    rw [q, ho] at e2; cases e2; cases d2
/-- the frame's own list is written -/
theorem FS.own_write {x : Str} {a : Addr} {xs xs' : List PD} {vs vs' : Array Value} {n n' : Nat} (f : FS c W base D h ρ) (hx : ρ x = some (.own a xs)) (un : ∀ y ys, ρ y = some (.own a ys) → y = x)
    (ho : h.get? a = some ⟨.type "list", none, .seq vs n, #[]⟩) (hn : h'.get? a = some ⟨.type "list", none, .seq vs' n', #[]⟩) (hs : ∀ b o, b ≠ a → h.get? b = some o → h'.get? b = some o) (r : RdAll D h vs'.toList xs') :
    FS c W base D h' (upd ρ x (.own a xs')) ∧ ∀ k₁ k₂, k₁ ≤ k₂ → Aft3 W D h k₁ D h' k₂ := by
  obtain ⟨v, va, rfl, w, _⟩ := f.look x _ hx
  obtain ⟨f', a3⟩ := (f.less (ρ' := fun y => if y = x then none else ρ y) fun y e q => by
    by_cases z : y = x
    · simp only [if_pos z] at q; cases q
    · simp only [if_neg z] at q; exact q).list_write w ho hn hs fun y ys q => by
      by_cases z : y = x
      · simp only [if_pos z] at q; cases q
      · simp only [if_neg z] at q; exact z (un y ys q)
  refine ⟨{ f' with look := fun y e q => ?_ }, a3⟩
  by_cases z : y = x
  · subst z
    simp only [upd, if_true] at q
    cases q
    exact ⟨_, va.write ho hs, rfl, w, vs', n', hn, r.keep (fun b o q e => ⟨q, hs b o (fun z => f.off b q (z ▸ w)) e⟩) fun _ _ q => q⟩
  · simp only [upd, if_neg z] at q
    exact f'.look y e (by simp only [if_neg z]; exact q)
theorem FS.own_obj {x : Str} {a : Addr} {xs : List PD} (f : FS c W base D h ρ) (hx : ρ x = some (.own a xs)) : VarAt c.env h x (.ref a) ∧ W a ∧ IsOwn D h a xs := by
  obtain ⟨v, va, rfl, w, o⟩ := f.look x _ hx
  exact ⟨va, w, o⟩
theorem name_at {A : Around} {s : Shared} {x : Str} {p : Pos} {v : Value} {Q E : Value → Shared → Prop} (va : VarAt c.env s.heap x v) (hk : c.env.scope.kind = .function) (hd : (x == ("__debug__" : Str)) = false) (hn : (x == ("__classdict__" : Str)) = false) (q : Q v s) : wpAny (model P0 c.w) A (eval (.Name x p) c.env) Q E s := by
  refine wpAny_Name ?_ hd
  rcases va with ⟨kl, m, n, em⟩ | ⟨kl | kl, ce, el, o⟩
  · exact wpAny_loadName_local hk kl n em q
  · exact wpAny_loadName_cell hk kl el o q
  · exact wpAny_loadName_free hk kl el o q hn
/-- x = [] : a list of the frame's own -/
theorem ss_own {x : Str} {p lp pos : Pos} {rest : List Stmt} (hx : Wr c W x) (hs : swapsWith (.List [] lp) (some (.Name x p)) pos.line c.env = pure false)
    (hh : ∀ a, (∀ y ys, ρ y ≠ some (.own a ys)) → EvSs c (fun b => W b ∨ b = a) base rest (upd ρ x (.own a [])) (fun pf ρ' => (∃ d, pf = .ret d) ∧ P pf ρ')) : EvSs c W base (.Assign [.Name x p] (.List [] lp) pos :: rest) ρ P := by
  intro A D s Q E ok p₀ f k
  refine wpAny_execs_cons ?_
  refine wpAny_Assign_Name ?_ hs
  refine List_ (args_nil ?_)
  refine wpAny_newObj_type ?_ (by size_fits)
  generalize ha : s.heap.objs.size = a
  have fr : s.heap.get? a = none := ha ▸ size_fresh s.heap
  have ga : (s.heap.push { cls := .type "list", data := .seq ([] : List Value).toArray }).get? a = some ⟨.type "list", none, .seq #[] 0, #[]⟩ := by rw [← ha]; exact Heap.get?_push_size _ rfl
  have gr : Grown s.heap (s.heap.push { cls := .type "list", data := .seq ([] : List Value).toArray }) := fun b o e => Heap.get?_push_of_some _ e
  generalize s.heap.push { cls := .type "list", data := .seq ([] : List Value).toArray } = h₁ at ga gr
  have bn : base.get? a = none := by
    cases q : base.get? a with
    | none => rfl
    | some o => have := f.gr a o q; rw [fr] at this; cases this
  have nW : ¬ W a := fun w => by obtain ⟨o, e⟩ := f.ex a w; rw [fr] at e; cases e
  have f₁ := f.aft (Aft.of_grown (n := 0) (n' := 0) gr)
  have F : FS c (fun b => W b ∨ b = a) base D h₁ ρ := { f₁ with
    nw := fun b q => q.elim (f.nw b) fun q => q ▸ bn
    off := fun b q w => w.elim (f.off b q) fun w => by obtain ⟨o, e⟩ := f.dl b q; rw [w, fr] at e; cases e
    ex := fun b q => q.elim (f₁.ex b) fun q => ⟨_, q ▸ ga⟩
    wl := .inl f.wl
    wc := fun y k e => (f.wc y k e).imp .inl id
    look := fun y e q => let ⟨v, va, r⟩ := f₁.look y e q; ⟨v, va, by
      cases e with
      | dat d => exact r
      | own b xs => obtain ⟨r1, r2, r3⟩ := r; exact ⟨r1, .inl r2, r3⟩⟩ }
  have hx' : Wr c (fun b => W b ∨ b = a) x := hx.imp id fun ⟨q1, q2, k, q3, q4⟩ => ⟨q1, q2, k, q3, .inl q4⟩
  refine store (s := { s with heap := h₁ }) (z := .own a []) hx' F ⟨rfl, .inr rfl, #[], 0, ga, .nil⟩ fun h₂ t₂ a₂ F₂ => ?_
  refine hh a (fun y ys q => nW (f.own_obj q).2.1) A D { s with heap := h₂, toks := t₂ } Q E ok (a₂.tk p₀) F₂ fun fl pf ρ' h₃ t₃ D₃ hp a₃ f₃ fr' => ?_
  obtain ⟨⟨d, rfl⟩, hp⟩ := hp
  have tot := a₂.trans a₃
  refine k fl (.ret d) ρ' h₃ t₃ D₃ hp ⟨fun b o w e => tot.kept b o (fun q => q.elim w fun q => by rw [q, fr] at e; cases e) (gr b o e), fun b o e => tot.alive b o (gr b o e), tot.sub, fun b q => ?_, tot.tsub, tot.mono, tot.ok⟩ trivial fr'
  rcases tot.fresh b q with q | (q | rfl) | ⟨q, o⟩
  · exact .inl q
  · exact .inr (.inl q)
  · exact .inr (.inr ⟨fr, tot.alive b _ ga⟩)
  · exact .inr (.inr ⟨gr.none q, o⟩)
/-- x.append(e) -/
theorem ss_append {x : Str} {xp ap cp pos : Pos} {e : Expr} {rest : List Stmt} {a : Addr} {xs : List PD} {d : PD} {pl : Sem Bool} (hk : c.env.scope.kind = .function) (hd : (x == ("__debug__" : Str)) = false) (hn : (x == ("__classdict__" : Str)) = false) (hx : ρ x = some (.own a xs)) (un : ∀ y ys, ρ y = some (.own a ys) → y = x) (hsz : xs.length ≤ sizeLine)
    (he : EvS c ρ e d) (h1 : starEach [e] c.env = (false, eval e c.env) :: starEach [] c.env)
    (hev : eval (.Call (.Attribute (.Name x xp) "append" ap) [e] [] cp) c.env = (do
      let ov ← eval (.Name x xp) c.env
      standAt ap.atName
      let (f, first) ← holding [ov] (getMethod ov "append" pl)
      callWith cp f first (backTo cp (starEach [e] c.env)) []))
    (h : EvSs c W base rest (upd ρ x (.own a (xs ++ [d]))) P) (hin : interactive c.env = false := by rfl) : EvSs c W base (.Expr (.Call (.Attribute (.Name x xp) "append" ap) [e] [] cp) pos :: rest) ρ P := by
  intro A D s Q E ok p₀ f k
  refine wpAny_execs_cons ?_
  refine wpAny_Expr_any ?_ hin
  refine MethodCall_ (pl := pl) ?_ hev
  obtain ⟨va, w, vs, n, ho, r⟩ := f.own_obj hx
  refine name_at va hk hd hn ?_
  refine getMethod_list_append ho rfl rfl ?_
  refine callWith_method1 ?_ h1 rfl
  refine args_cons ?_ h1
  refine he A D s W base ok p₀ f _ _ fun v h₁ t₁ D₁ a₁ r₁ => args_nil ?_
  have ho₁ := a₁.grown _ _ ho
  have f₁ := f.aft a₁
  refine append_call (s := { s with heap := h₁, toks := t₁ }) ho₁ (by have := r.length; rw [Array.length_toList] at this; rw [this]; exact hsz) fun h₂ n₂ hn₂ hs₂ => ?_
  obtain ⟨f₂, a₂⟩ := f₁.own_write hx un ho₁ hn₂ (fun b o q e => (hs₂ b q).trans e) (xs' := xs ++ [d]) (by rw [Array.toList_push]; exact (a₁.rdAll r).append (.cons r₁ .nil))
  have tot : Aft3 W D s.heap s.toks D₁ h₂ t₁ := (Aft.two a₁).trans (a₂ _ _ (Nat.le_refl _))
  exact h A D₁ { s with heap := h₂, toks := t₁ } Q E ok (tot.tk p₀) f₂ fun fl pf ρ' h₃ t₃ D₃ hp a₃ f₃ fr => k fl pf ρ' h₃ t₃ D₃ hp (tot.trans a₃) f₃ fr
/-- return x, of an own list -/
theorem ss_ret_own {x : Str} {xp pos : Pos} {rest : List Stmt} {a : Addr} {xs : List PD} (hk : c.env.scope.kind = .function) (hd : (x == ("__debug__" : Str)) = false) (hn : (x == ("__classdict__" : Str)) = false) (hx : ρ x = some (.own a xs)) (hp : P (.ret (.list xs)) ρ) : EvSs c W base (.Return (some (.Name x xp)) pos :: rest) ρ P := by
  intro A D s Q E ok p₀ f k
  refine wpAny_execs_cons ?_
  refine wpAny_Return_some ?_
  obtain ⟨va, w, vs, n, ho, r⟩ := f.own_obj hx
  refine name_at va hk hd hn ?_
  refine k (.ret (.ref a)) (.ret (.list xs)) ρ s.heap s.toks (D.or fun b => b = a) hp ⟨fun _ _ _ e => e, fun _ o e => ⟨o, e⟩, fun _ q => .inl q, fun b q => q.elim .inl fun q => .inr (.inl (by subst q; exact w)), fun _ _ q => q, Nat.le_refl _, fun o q => ⟨⟨o.fn, o.ub, o.pos⟩, q⟩⟩ trivial ?_
  exact .list (.inr rfl) ho (RdAll.keep (D := D) (D' := D.or fun b => b = a) (fun b o q e => ⟨Or.inl q, e⟩) (fun _ _ q => q) r)
end
end Mine
end

-- J1
section
open PySem PySem.W PyProof.Rows PySem.W.X PySem.Calls PySem.Spec PySem.SeqAt
set_option Elab.async false
set_option maxRecDepth 100000
set_option maxHeartbeats 0
set_option linter.unusedVariables false
namespace Mine
theorem filled18 : PySem.Challenge.rw_in0208_01 = PySem.Challenge.rw_in0208_01 ∧ hd.heap_39 = hd.heap_39 := by k_fill; exact ⟨rfl, rfl⟩
/-- entering a def with a star: the rest of the arguments is a new tuple -/
theorem enterV {w : World} {A : Around} {s s' : Shared} {Q E : Value → Shared → Prop} {mean : ExcName → Option Value} {mg mb : Str → Option Value} {name qual : Str} {params : Arguments} {body : List Stmt} {scope : Scope} {dV kV doc pm cdv ct oc : Value} {an od : Option Addr} {osl : Array (Option Value)} {f : Addr} {vs : List Value} {binds : List (Str × Value)}
    (X : (hd.heap_39 w.params).In s.heap) (T : Top hd.view_39 LS mean mg mb s'.heap)
    (ho : (hd.heap_39 w.params).lookup f = some ⟨oc, od, .func (fnOf name qual params body scope dV kV doc pm an cdv ct), osl⟩) (hcd : codeIn (hd.heap_39 w.params) cdv qual = true)
    (hroom : A.depth < recursionLimit)
    (hbind : ∀ (M : Model) (A : Around) (E : Value → Shared → Prop) (Q : List (Str × Value) → Shared → Prop), Q binds s' → wpAny M A (bindArgs (fnOf name qual params body scope dV kV doc pm an cdv ct) ⟨vs, []⟩) Q E s)
    (hkind : (binds.all fun y => scope.names.lookup y.1 == some .local || scope.names.lookup y.1 == some .cell) = true)
    (h : ∀ h₁ tk, s'.toks ≤ tk → InCallC s' s'.heap.objs.size (bindL (envOfC qual scope s'.heap.objs.size f cdv).kindOf binds fun _ => none) (cellsFrom (s'.heap.objs.size + 1) scope.names []) (bindC (envOfC qual scope s'.heap.objs.size f cdv).kindOf binds fun _ => none) { s' with heap := h₁, toks := tk } →
      wpAny (model P0 w) (A.deeper (envOfC qual scope s'.heap.objs.size f cdv)) (execs body (envOfC qual scope s'.heap.objs.size f cdv))
        (fun fl s' => Q (match fl with | .ret v => v | _ => .none) s') (fun _ _ => False)
        { s' with heap := h₁, toks := tk })
    (hco : scope.isCoroutine = false) (hgen : scope.isGenerator = false) (hk : scope.kind = .function) :
    wpAny (model P0 w) A (call (.ref f) vs) Q E s := by
  refine wpAny_call ?_
  refine codeAny_call_function hroom (X _ _ ho) rfl hco hgen rfl (codeRec_of X hcd) (hbind _ _ _ _ ?_)
  refine mono_of (wpAny_newFunctionEnv_cells hk (kindsX hkind _) fun env' he s' x mo => ?_)
  subst he
  refine ⟨T.nolimit.keeps x.toInCall.keep, codeAny_func ?_⟩
  obtain ⟨h₁, tk, rfl, _⟩ := x.done
  exact wpAny_mono (h h₁ tk mo x) (fun fl s' hl => hl) fun _ _ y => y.elim
theorem cal_joinx {c : Cx} (hr : Rm c 6) {x y z : Str} (h1 : Txt.startswith y "/" = false) (h2 : ((x.length : Int) != 0) = true) (h3 : x.length ≤ 100) (h4 : y.length ≤ 100) (h5 : (if Txt.endswith x "/" = true then x ++ y else x ++ ("/" ++ y)) = z) (h6 : (Str.length "/" + y.length) ≤ 200 ∧ ("/" ++ y).length ≤ 200) :
    Cal c (.ref 267) [.str x, .str y] (.str z) := by
  intro A D s vs ok hs r Q E k
  obtain ⟨t, u, rfl, nt, nu⟩ := two_strs r
  have sl : ∀ n : Nat, n ≤ 1000 → n ≤ sizeLine := fun n h => Nat.le_trans h (by decide)
  have hs' := hs.aft (s' := { s with heap := s.heap.push { cls := .type "tuple", data := .seq #[.str y u] } }) (Aft.push _)
  obtain ⟨X, _⟩ := hs.kt
  obtain ⟨X', mean, mg, mb, T⟩ := hs'.kt
  refine wpAny_AG (d := c.dp) (u := c.un) ?_ ok.h ok.g ok.d ok.u
  refine' enterV (s' := { s with heap := s.heap.push { cls := .type "tuple", data := .seq #[.str y u] } }) (binds := [("a", .str x t), ("p", .ref s.heap.objs.size)]) X T ?ho ?hcd hr.lim ?hbind ?hkind ?_ ?hco ?hgen ?hk
  (case ho => k_dflt k_is); (case hcd => k_dflt k_is); (case hkind => exact rfl); (case hco => exact rfl); (case hgen => exact rfl); (case hk => exact rfl)
  case hbind =>
    intro M A E Q q
    show wpAny M A (newTuple [.str y u] >>= fun tt => (pure [(Str.ofString "a", Value.str x t), (Str.ofString "p", tt)] : Sem _)) Q E s
    exact wpAny_bind (wpAny_newObj_type (wpAny_pure q) (by size_fits))
  intro h₁ tk mo xx
  have F := FS.start (dp := c.dp + 1) (un := c.un + 3) (b := c.st) (xs := ["a", "p"]) (vs := [.str x t, .ref s.heap.objs.size]) (ds := [.str x, .tuple [.str y]]) hs'.kt hs'.kd hs'.dl
    (.cons (.str _ _ nt) (.cons (.tuple (.inr rfl) (Heap.get?_push_size _ rfl) (.cons (.str _ _ nu) .nil)) .nil)) rfl xx
  refine' (show EvSs ⟨c.w, c.dp + 1, c.un + 3, _, c.st⟩ _ _ _ _ (fun pf _ => pf = .ret (.str z)) from ?B) _ _ { s with heap := h₁, toks := tk } _ _ ⟨rfl, Nat.le_refl _, Nat.le_refl _, rfl⟩ ⟨fun e => let ⟨o, q⟩ := hs'.tk.1 e; ⟨o, Nat.le_trans q mo⟩, hs'.tk.2⟩ F ?K
  case K =>
    intro fl pf ρ' h' tk' D' hp a3 _ fr
    subst hp
    cases fl <;> simp only [FlR] at fr
    exact k _ h' tk' D' ((Aft.push _).trans (aft3_call mo F.gr F.nw F.ex a3)) fr
  case B =>
    clear F xx
    have rm : ∀ {env : Env}, Rm ⟨c.w, c.dp + 1, c.un + 3, env, c.st⟩ 4 := fun {env} => hr.down.less (by decide)
    refine ss_assign (.inl ⟨rfl, rfl⟩) (evs (ev_call_def (ev_top ⟨rfl, rfl, rfl⟩ rfl (by k_is) rfl) (by k_is) (es_cons (ev_name rfl rfl rfl rfl) es_nil rfl) (c_fspath rm x) (st1 rfl))) rfl ?_
    refine ss_assign (.inl ⟨rfl, rfl⟩) (evs (ev_call_def (ev_top ⟨rfl, rfl, rfl⟩ rfl (by k_is) rfl) (by k_is) (es_cons (ev_name rfl rfl rfl rfl) es_nil rfl) (c_get_sep rm x) (st1 rfl))) rfl ?_
    refine ss_assign (.inl ⟨rfl, rfl⟩) (evs (ev_name rfl rfl rfl rfl)) rfl ?_
    refine ss_try ?_
    refine ss_for (ds := [.str y]) (EvI0.evI (ei_tuple (ev_name rfl rfl rfl rfl)) (.inl ⟨_, _, rfl⟩))
      (fun i ρ' => ρ' "sep" = some (.dat (.str "/")) ∧ ρ' "path" = some (.dat (.str (if i = 0 then x else z)))) ⟨rfl, rfl⟩ ?_ ?_ (fun _ => rfl)
    · rintro i d ρ' hd ⟨e1, e2⟩
      obtain rfl : i = 0 := by have := (List.getElem?_eq_some_iff.mp hd).1; simpa using this
      obtain rfl : d = .str y := by simpa using hd.symm
      refine ⟨_, asg_name (.inl ⟨rfl, rfl⟩), ?_⟩
      refine ss_assign (.inl ⟨rfl, rfl⟩) (evs (ev_call_def (ev_top ⟨rfl, rfl, rfl⟩ rfl (by k_is) rfl) (by k_is) (es_cons (ev_name rfl rfl rfl rfl) es_nil rfl) (c_fspath rm y) (st1 rfl))) rfl ?_
      have hor : (Txt.startswith y "/" || ((!((x.length : Int) != 0)) || false)) = false := by rw [h1, h2]; rfl
      refine ss_if (b := Txt.startswith y "/" || ((!((x.length : Int) != 0)) || false)) (evts (et_bool (eb_or (et_plain (ev_meth (ev_name rfl rfl rfl rfl) gm_startswith (es_cons (ev_name rfl rfl rfl (alls_of e1)) es_nil rfl) cal_startswith rfl rfl rfl) tru_bool rfl)
        fun _ => eb_or (et_not (et_plain (ev_name rfl rfl rfl (alls_of e2)) (tru_str (by rw [if_pos rfl]; omega)) rfl)) fun _ => eb_or_nil))) (fun e => by rw [hor] at e; cases e) fun _ => ?_
      refine ss_if (b := Txt.endswith x "/") (evts (et_plain (ev_meth (ev_name rfl rfl rfl (alls_of e2)) gm_endswith (es_cons (ev_name rfl rfl rfl (alls_of e1)) es_nil rfl) cal_endswith rfl rfl rfl) tru_bool rfl)) ?_ ?_
      · intro he
        rw [if_pos he] at h5
        refine ss_aug rfl (.inl ⟨rfl, rfl⟩) e2 (evs (ev_name rfl rfl rfl rfl)) (op_iadd_str (sl _ (by rw [if_pos rfl]; omega))) ?_
        refine ss_nil (ss_nil (ss_nil ⟨e1, ?_⟩))
        rw [← h5]; rfl
      · intro he
        rw [if_neg (by rw [he]; decide)] at h5
        refine ss_aug rfl (.inl ⟨rfl, rfl⟩) e2 (evs (ev_bin (ev_name rfl rfl rfl (dats_of e1)) (ev_name rfl rfl rfl rfl) (op_add_str (sl _ (by omega))))) (op_iadd_str (sl _ (by rw [if_pos rfl]; omega))) ?_
        refine ss_nil (ss_nil (ss_nil ⟨e1, ?_⟩))
        rw [← h5]; rfl
    · rintro ρ' ⟨e1, e2⟩
      refine ss_nil (ss_nil ?_)
      exact ss_return (evs (ev_name rfl rfl rfl (dats_of e2))) rfl
end Mine
end

-- C5
section
open PySem PySem.W PyProof.Rows PySem.W.X PySem.Calls PySem.Spec PySem.SeqAt
set_option Elab.async false
set_option maxRecDepth 100000
set_option maxHeartbeats 0
set_option linter.unusedVariables false
namespace Mine
theorem filled8 : PySem.Challenge.rw_in0208_01 = PySem.Challenge.rw_in0208_01 ∧ hd.heap_39 = hd.heap_39 := by k_fill; exact ⟨rfl, rfl⟩
-- tb_start: the sides of «cal_def»
local macro_rules | `(tactic| tb_start) => `(tactic| ((case ho => k_dflt k_is); (case hcd => k_dflt k_is); (case hbind => first | exact bt1 fun _ => rfl | exact bt2 fun _ _ => rfl | exact bt3 fun _ _ _ => rfl | exact bt4 fun _ _ _ _ => rfl | exact bt0 rfl); (case hkind => exact fun _ => rfl); (case hco => exact rfl); (case hgen => exact rfl); (case hk => exact rfl)))
def WAYS : List Str := ["/", "/a", "/a/a", "/a/ab", "/ab", "/ab/b"]
def strsD (xs : List Str) : PD := .list (xs.map .str)
theorem c_law_names {c : Cx} (hr : Rm c 1) : Cal c (.ref 286) [] (.list (NAMES.map strsD)) := by
  refine' cal_def (xs := []) ?ho ?hcd hr.lim rfl ?hbind ?hkind ?hco ?hgen ?hk ?_; tb_start
  intro L base
  have sl : ∀ n : Nat, n ≤ 10 → n ≤ sizeLine := fun n h => Nat.le_trans h (by decide)
  refine @ss_return _ _ _ _ _ _ _ _ _ (evs ?_) rfl
  refine @ev_list _ _ _ _ [.list [], .list [.str "a"], .list [.str "a", .str "a"], .list [.str "a", .str "ab"], .list [.str "ab"], .list [.str "ab", .str "b"]] ?_ (sl _ (by decide))
  refine @es_cons _ _ _ _ _ _ (@ev_list _ _ _ _ _ es_nil (sl _ (by decide))) ?_ rfl
  refine @es_cons _ _ _ _ _ _ (@ev_list _ _ _ _ _ (@es_cons _ _ _ _ _ _ ev_str es_nil rfl) (sl _ (by decide))) ?_ rfl
  refine @es_cons _ _ _ _ _ _ (@ev_list _ _ _ _ _ (@es_cons _ _ _ _ _ _ ev_str (@es_cons _ _ _ _ _ _ ev_str es_nil rfl) rfl) (sl _ (by decide))) ?_ rfl
  refine @es_cons _ _ _ _ _ _ (@ev_list _ _ _ _ _ (@es_cons _ _ _ _ _ _ ev_str (@es_cons _ _ _ _ _ _ ev_str es_nil rfl) rfl) (sl _ (by decide))) ?_ rfl
  refine @es_cons _ _ _ _ _ _ (@ev_list _ _ _ _ _ (@es_cons _ _ _ _ _ _ ev_str es_nil rfl) (sl _ (by decide))) ?_ rfl
  exact @es_cons _ _ _ _ _ _ (@ev_list _ _ _ _ _ (@es_cons _ _ _ _ _ _ ev_str (@es_cons _ _ _ _ _ _ ev_str es_nil rfl) rfl) (sl _ (by decide))) es_nil rfl

def JS : List (Str × Str × Str) := [("/", "a", "/a"), ("/a", "a", "/a/a"), ("/a", "ab", "/a/ab"), ("/", "ab", "/ab"), ("/ab", "b", "/ab/b")]
theorem c_join {c : Cx} (hr : Rm c 6) {x y z : Str} (h : (x, y, z) ∈ JS) : Cal c (.ref 267) [.str x, .str y] (.str z) := by
  simp only [JS, List.mem_cons, Prod.mk.injEq, List.not_mem_nil, or_false] at h
  rcases h with ⟨rfl, rfl, rfl⟩ | ⟨rfl, rfl, rfl⟩ | ⟨rfl, rfl, rfl⟩ | ⟨rfl, rfl, rfl⟩ | ⟨rfl, rfl, rfl⟩
  all_goals exact cal_joinx hr (by decide +kernel) (by decide +kernel) (by decide +kernel) (by decide +kernel) (by decide +kernel) (by decide +kernel)
/-- a way, by its first names -/
def jn : List Str → Str
  | [] => "/"
  | [x] => "/" ++ x
  | x :: y :: _ => "/" ++ x ++ "/" ++ y
theorem jn_step : ∀ names ∈ NAMES, ∀ j, (h : j < names.length) → (jn (names.take j), names[j], jn (names.take (j + 1))) ∈ JS := by decide
theorem jn_all : NAMES.map jn = WAYS := by decide
theorem c_law_ways {c : Cx} (hr : Rm c 8) : Cal c (.ref 293) [] (.list (WAYS.map .str)) := by
  refine' cal_def (xs := []) ?ho ?hcd hr.lim rfl ?hbind ?hkind ?hco ?hgen ?hk ?_; tb_start
  intro L base
  refine ss_own (.inl ⟨rfl, rfl⟩) rfl fun a ha => ?_
  refine ss_for (ds := NAMES.map strsD) (EvI0.evI (ei_list (ev_call_def (ev_top ⟨rfl, rfl, rfl⟩ rfl (by k_is) rfl) (by k_is) es_nil (c_law_names (hr.down.less (by decide))) (.inl ⟨rfl, rfl⟩))) (.inl ⟨_, _, rfl⟩))
    (fun i ρ' => ρ' "ways" = some (.own a (((NAMES.take i).map jn).map .str)) ∧ ∀ y ys, ρ' y = some (.own a ys) → y = "ways") ⟨rfl, fun y ys q => ?_⟩ ?_ ?_ (fun _ => rfl)
  · by_cases z : y = "ways"
    · exact z
    · simp only [upd, if_neg z] at q; exact absurd q (ha y ys)
  · rintro i d ρ' hd ⟨hw, hu⟩
    rw [List.getElem?_map] at hd
    obtain ⟨names, hn, rfl⟩ := Option.map_eq_some_iff.mp hd
    have mem : names ∈ NAMES := List.mem_of_getElem? hn
    refine ⟨_, asg_name (.inl ⟨rfl, rfl⟩), ?_⟩
    refine ss_assign (.inl ⟨rfl, rfl⟩) (evs ev_str) rfl ?_
    have hu₂ : ∀ y ys, upd (upd ρ' "names" (.dat (strsD names))) "way" (.dat (.str "/")) y = some (.own a ys) → y = "ways" := fun y ys q => by
      by_cases z : y = "way"
      · simp only [upd, if_pos z] at q; cases q
      · by_cases z' : y = "names"
        · simp only [upd, if_neg z, if_pos z'] at q; cases q
        · simp only [upd, if_neg z, if_neg z'] at q; exact hu y ys q
    refine ss_for (ds := names.map .str) (EvI0.evI (ei_list (ev_name rfl rfl rfl rfl)) (.inl ⟨_, _, rfl⟩))
      (fun j ρ'' => ρ'' "ways" = some (.own a (((NAMES.take i).map jn).map .str)) ∧ (∀ y ys, ρ'' y = some (.own a ys) → y = "ways") ∧ ρ'' "way" = some (.dat (.str (jn (names.take j))))) ⟨hw, hu₂, rfl⟩ ?_ ?_ (fun _ => rfl)
    · rintro j d ρ₂ hd ⟨h1, h2, h3⟩
      rw [List.getElem?_map] at hd
      obtain ⟨nm, hnm, rfl⟩ := Option.map_eq_some_iff.mp hd
      obtain ⟨hj, rfl⟩ := List.getElem?_eq_some_iff.mp hnm
      refine ⟨_, asg_name (.inl ⟨rfl, rfl⟩), ?_⟩
      refine ss_assign (.inl ⟨rfl, rfl⟩) (evs (ev_call_def (ev_top ⟨rfl, rfl, rfl⟩ rfl (by k_is) rfl) (by k_is) (es_cons (ev_name rfl rfl rfl (dats_of h3)) (es_cons (ev_name rfl rfl rfl rfl) es_nil rfl) rfl) (c_join (hr.down.less (by decide)) (jn_step names mem j hj)) (.inr ⟨_, _, rfl, rfl, rfl⟩))) rfl ?_
      refine ss_nil ⟨h1, fun y ys q => ?_, rfl⟩
      by_cases z : y = "way"
      · simp only [upd, if_pos z] at q; cases q
      · by_cases z' : y = "name"
        · simp only [upd, if_neg z, if_pos z'] at q; cases q
        · simp only [upd, if_neg z, if_neg z'] at q; exact h2 y ys q
    · rintro ρ₂ ⟨h1, h2, h3⟩
      rw [List.length_map, List.take_length] at h3
      refine ss_nil ?_
      refine ss_append rfl rfl rfl h1 h2 ?_ (evs (ev_name rfl rfl rfl (dats_of h3))) rfl rfl ?_
      · rw [List.length_map, List.length_map, List.length_take]
        exact Nat.le_trans (Nat.min_le_right _ _) (by decide)
      refine ss_nil ⟨?_, fun y ys q => ?_⟩
      · show some (Ent.own a _) = _
        rw [List.take_add_one, hn]
        simp
      · by_cases z : y = "ways"
        · exact z
        · simp only [upd, if_neg z] at q; exact h2 y ys q
  · rintro ρ' ⟨hw, hu⟩
    refine ss_nil ?_
    refine ss_ret_own rfl rfl rfl hw ⟨⟨_, rfl⟩, ?_⟩
    rw [List.length_map, List.take_length, jn_all]
end Mine
end

-- M1
section
open PySem PySem.W PyProof.Rows PySem.W.X PySem.Calls PySem.Spec PySem.SeqAt
set_option Elab.async false
set_option maxRecDepth 100000
set_option maxHeartbeats 0
set_option linter.unusedVariables false
namespace Mine
def OutT (s : Shared) (Q : Value → Shared → Prop) (vs : List Value) : Prop := ∀ a n h' tk', Grown s.heap h' → s.heap.get? a = none → h'.get? a = some ⟨.type "tuple", none, .seq vs.toArray n, #[]⟩ → Q (.ref a) { s with heap := h', toks := tk' }
theorem outT_of {s : Shared} {Q : Value → Shared → Prop} {vs : List Value} (H : OutT s Q vs) {a n h' t' news} (D : Mem s.heap h' [] news) (z : s.heap.get? a = none) (z' : h'.get? a = some ⟨.type "tuple", none, .seq vs.toArray n, #[]⟩) : Q (.ref a) ⟨h', s.gens, s.drawn, t', s.os⟩ := H a n h' t' (keepAll D) z z'
def OutM (s : Shared) (N : Value → Shared → Prop) (l : Addr) : Prop := ∀ mo tp I h' tk', Mem s.heap h' [] [(mo, { cls := .type "map", data := .fields #[.ref tp, .ref 246] }), (tp, { cls := .type "tuple", data := .seq #[.ref I] }), (I, { cls := .type "list_iterator", data := .fields #[.ref l, .int 0 0] })] → N (.ref mo) { s with heap := h', toks := tk' }
section
local macro_rules | `(tactic| x_close) => `(tactic| exact (by assumption : OutM _ _ _) _ _ _ _ _ (by assumption))
theorem tmapA (w : World) (l : Addr) (n : Nat) (x y : Str) (t u : Tok) (mean : ExcName → Option Value) (mg mb : Str → Option Value) (s : Shared) (Q E : Value → Shared → Prop) (X : (hd.heap_39 w.params).In s.heap) (T : Top hd.view_39 LS mean mg mb s.heap)
    (hl : s.heap.get? l = some ⟨.type "list", none, .seq #[.str x t, .str y u] n, #[]⟩) (hQ : OutM s Q l) :
    wpAny (model P0 w) (AL 490 4900) (call (.type "map") [.ref 246, .ref l]) Q E s := by
  x_run
end
end Mine
end

-- M2
section
open PySem PySem.W PyProof.Rows PySem.W.X PySem.Calls PySem.Spec PySem.SeqAt
set_option Elab.async false
set_option maxRecDepth 100000
set_option maxHeartbeats 0
set_option linter.unusedVariables false
namespace Mine
theorem slot_map_next : Slot "map" "__next__" "map.__next__" :=
  .of (owner := "map") (n := "__next__") (by rw [typeLookup_type, builtinLookup_eq_fast]; kernel_rfl) (by decide +kernel) (by decide +kernel) (by decide +kernel)
    (by first | exact .inl (by decide +kernel) | exact .inr (by decide +kernel)) (by rw [isSubtype_type]; kernel_rfl)
theorem entry_map_next : entryFor table "map.__next__" = some Builtin.«map.__next__» := entryFor_of_fast (by kernel_rfl)
theorem owner_map : Manifest.owners.lookup (String.ofList ['p', 'a', 'm'].reverse) = some Manifest.sig_map := by kernel_rfl
theorem args_map_next (a : Value) : argsOk "map.__next__" ⟨[a], []⟩ := by
  unfold argsOk; rw [signature?_of (id := "map.__next__") (n := ['_', '_', 't', 'x', 'e', 'n', '_', '_']) (o := ['p', 'a', 'm']) (by kernel_rfl) owner_map]; kernel_rfl
theorem map_no_len : typeLookup (.type "map") "__len__" = pure none := by rw [typeLookup_type, builtinLookup_eq_fast]; kernel_rfl
theorem map_no_hint : typeLookup (.type "map") "__length_hint__" = pure none := by rw [typeLookup_type, builtinLookup_eq_fast]; kernel_rfl
theorem map_item {w : World} {A : Around} {s : Shared} {I l tp mo f : Addr} {i : Nat} {items : Array Value} {v : Value} {n : Nat} {Q : Option Value → Shared → Prop} {E : Value → Shared → Prop}
    (hit : s.heap.IsListIter I l i) (hl : s.heap.IsList l items) (hx : items[i]? = some v) (ht : s.heap.get? tp = some { cls := .type "tuple", data := .seq #[.ref I] n }) (hm : s.heap.get? mo = some { cls := .type "map", data := .fields #[.ref tp, .ref f] }) (nI : mo ≠ I)
    (hc : ∀ h', h'.IsListIter I l (i + 1) → Heap.SameBut I s.heap h' → wpAny (model P0 w) A.in1 (call (.ref f) [v]) (fun r s' => Q (some r) s') (fun e s' => False) { s with heap := h' }) : wpAny (model P0 w) A (pyNext (.ref mo)) Q E s := by
  have hT : s.TypeIs (.ref mo) "map" := ⟨_, hm, rfl⟩
  unfold pyNext
  refine wpAny_bind (wpAny_attempt (wpAny_callSpecial?_slot (name := Str.ofString "__next__") hT slot_map_next
    (wpAny_call_entry slot_map_next hT entry_map_next ?_ (args_map_next _))))
  show wpAny _ _ (field (.ref mo) 0 >>= _) _ _ _
  refine wpAny_bind (wpAny_field hm rfl (x := .ref tp) rfl ?_)
  show wpAny _ _ (seqItems? (.ref tp) >>= _) _ _ _
  refine wpAny_bind (wpAny_seqItems ht rfl ?_)
  show wpAny _ A.in1 (forIn (#[Value.ref I] : Array Value) #[] _ >>= _) _ _ s
  rw [← Array.forIn_toList]
  simp only [List.forIn_cons, List.forIn_nil]
  refine wpAny_bind (wpAny_bind (wpAny_bind (wpAny_holding (wpAny_nextOf_list_item hit hl hx fun h' hit' hs' => ?_))))
  refine wpAny_pure ?_
  refine wpAny_pure ?_
  have hm' := hs'.extBut mo _ nI hm
  refine wpAny_bind (wpAny_field hm' rfl (x := .ref f) rfl ?_)
  refine wpAny_bind (wpAny_holding (wpAny_mono (hc h' hit' hs') (fun r s' q => ?_) fun _ _ q => q.elim))
  refine wpAny_bind (wpAny_letGo (wpAny_pure ⟨_, rfl, wpAny_pure q⟩))
theorem map_end {w : World} {A : Around} (hh : A.handled = none) {s : Shared} {I l tp mo f : Addr} {i : Nat} {items : Array Value} {n : Nat} {Q : Option Value → Shared → Prop} {E : Value → Shared → Prop}
    (hit : s.heap.IsListIter I l i) (hl : s.heap.IsList l items) (hx : items[i]? = none) (ht : s.heap.get? tp = some { cls := .type "tuple", data := .seq #[.ref I] n }) (hm : s.heap.get? mo = some { cls := .type "map", data := .fields #[.ref tp, .ref f] })
    (hQ : ∀ h', Heap.ExtBut I s.heap h' → Q none { s with heap := h' }) : wpAny (model P0 w) A (pyNext (.ref mo)) Q E s := by
  have hT : s.TypeIs (.ref mo) "map" := ⟨_, hm, rfl⟩
  unfold pyNext
  refine wpAny_bind (wpAny_attempt (wpAny_callSpecial?_slot (name := Str.ofString "__next__") hT slot_map_next
    (wpAny_call_entry slot_map_next hT entry_map_next ?_ (args_map_next _))))
  show wpAny _ _ (field (.ref mo) 0 >>= _) _ _ _
  refine wpAny_bind (wpAny_field hm rfl (x := .ref tp) rfl ?_)
  show wpAny _ _ (seqItems? (.ref tp) >>= _) _ _ _
  refine wpAny_bind (wpAny_seqItems ht rfl ?_)
  show wpAny _ A.in1 (forIn (#[Value.ref I] : Array Value) #[] _ >>= _) _ _ s
  rw [← Array.forIn_toList]
  simp only [List.forIn_cons, List.forIn_nil]
  refine wpAny_bind (wpAny_bind (wpAny_bind (wpAny_holding (wpAny_nextOf_list_end hh hit hl hx fun h' x he' hx' => ?_))))
  obtain ⟨o, ho, hc⟩ := hx'
  refine wpAny_bind (wpAny_isInstance (T := "StopIteration") (b := true) ⟨o, ho, hc⟩ isSubtype_stop ?_)
  exact wpAny_pure (hQ _ he')
theorem slot_map_iter : Slot "map" "__iter__" "map.__iter__" :=
  .of (owner := "map") (n := "__iter__") (by rw [typeLookup_type, builtinLookup_eq_fast]; kernel_rfl) (by decide +kernel) (by decide +kernel) (by decide +kernel)
    (by first | exact .inl (by decide +kernel) | exact .inr (by decide +kernel)) (by rw [isSubtype_type]; kernel_rfl)
theorem entry_map_iter : entryFor table "map.__iter__" = some Builtin.«dict_keyiterator.__iter__» := entryFor_alias (id' := "dict_keyiterator.__iter__") (by kernel_rfl) (by first | rfl | decide +kernel | (unfold String.splitOn; simp +decide [String.splitOnAux])) (by decide +kernel) (by kernel_rfl)
theorem args_map_iter (a : Value) : argsOk "map.__iter__" ⟨[a], []⟩ := by
  unfold argsOk; rw [signature?_of (id := "map.__iter__") (n := ['_', '_', 'r', 'e', 't', 'i', '_', '_']) (o := ['p', 'a', 'm']) (by kernel_rfl) owner_map]; kernel_rfl
theorem map_self {w : World} {A : Around} {s : Shared} {mo : Addr} {vs : Array Value} {Q E : Value → Shared → Prop} (hm : s.heap.get? mo = some { cls := .type "map", data := .fields vs }) (h : Q (.ref mo) s) : wpAny (model P0 w) A (pyIter (.ref mo)) Q E s := by
  have hT : s.TypeIs (.ref mo) "map" := ⟨_, hm, rfl⟩
  refine wpAny_pyIter_slot hT slot_map_iter (wpAny_call_entry slot_map_iter hT entry_map_iter ?_ (args_map_iter _))
  show wpAny _ _ (ret (.ref mo)) _ _ s
  exact wpAny_pure ⟨_, rfl, "map", _, hT, slot_map_next.lookup, h⟩
/-- an iterator of the kind «map», as the kit's consumers want it; its states know the heap at the start -/
theorem map_walks {w : World} {A : Around} (hh : A.handled = none) (hd₁ : A.depth ≤ 500) (hu₁ : A.units + 1 ≤ 5000) {g : Heap} {mean : ExcName → Option Value} {mg mb : Str → Option Value} (X : (hd.heap_39 w.params).In g) (T : Top hd.view_39 LS mean mg mb g) {I l tp mo : Addr} {its : Array Value} {xs : List (Str × Tok)} {n N : Nat} (he : its = (strValues xs).toArray)
    (hg : ∀ b o, g.get? b = some o → b < N) (hl : g.IsList l its) (hI : g.get? I = none) (nI : mo ≠ I) (tI : tp ≠ I) (lI : l ≠ I) (hN : I < N ∧ tp < N ∧ mo < N) :
    WalksS P0 w A mo (List.range N) [I] (fun a b => a = b) xs.length (fun i v => ∃ p, xs[i]? = some p ∧ v = .str p.1 p.2)
      (fun i s => Grown g s.heap ∧ s.heap.IsListIter I l i ∧ s.heap.get? tp = some { cls := .type "tuple", data := .seq #[.ref I] n } ∧ s.heap.get? mo = some { cls := .type "map", data := .fields #[.ref tp, .ref 246] }) where
  sub := fun b hb => by rw [List.mem_singleton] at hb; subst hb; exact List.mem_range.mpr hN.1
  grefl := fun _ => rfl
  gtrans := fun _ _ _ a b => a.trans b
  frame := by
    rintro i s h' tk ⟨a, b, c, d⟩ _ kp
    exact ⟨fun x o e => kp x (List.mem_range.mpr (hg x o e)) o (a x o e), b.at fun o e => kp I (List.mem_range.mpr hN.1) o e, kp tp (List.mem_range.mpr hN.2.1) _ c, kp mo (List.mem_range.mpr hN.2.2) _ d⟩
  item := by
    rintro i s Q E hi ⟨a, b, c, d⟩ k
    have hsl : s.heap.IsList l its := let ⟨o, e, r⟩ := hl; ⟨o, a _ _ e, r⟩
    have hx : its[i]? = some (.str xs[i].1 xs[i].2) := by subst he; simp [strValues, hi]
    refine map_item b hsl hx c d nI fun h' b' hs' => ?_
    have a' : Grown g h' := fun x o e => hs'.extBut x o (fun q => by rw [q, hI] at e; cases e) (a x o e)
    refine mono_of (wpAny_AL (fspath_c w xs[i].1 xs[i].2 mean mg mb { s with heap := h' } _ _ (X.keeps a') (T.keeps a') ?_) hh (by exact hd₁) (by exact hu₁))
    intro h'' tk' g'' mo'
    refine k _ _ ⟨xs[i], by simp [hi], rfl⟩ ⟨a'.trans g'', b'.at fun o e => g'' _ _ e, g'' _ _ (hs'.extBut tp _ tI c), g'' _ _ (hs'.extBut mo _ nI d)⟩ ⟨fun x o q e => g'' _ _ (hs'.extBut x o (fun z => q (by simp [z])) e), rfl, rfl, rfl, mo'⟩
  done := by
    rintro s Q E ⟨a, b, c, d⟩ k
    have hsl : s.heap.IsList l its := let ⟨o, e, r⟩ := hl; ⟨o, a _ _ e, r⟩
    refine map_end hh b hsl (by subst he; simp [strValues]) c d fun h' he' => ?_
    exact k _ ⟨fun x o q e => he' x o (fun z => q (by simp [z])) e, rfl, rfl, rfl, Nat.le_refl _⟩
  self := by
    rintro i s Q E ⟨a, b, c, d⟩ k
    exact map_self d k
theorem collect_map {w : World} {A : Around} {s : Shared} {I : Addr} {fp wr : List Addr} {G : Array GenState → Array GenState → Prop} {n : Nat} {P : Nat → Value → Prop} {St : Nat → Shared → Prop} {Q : List Value → Shared → Prop} {E : Value → Shared → Prop}
    (W : WalksS P0 w A.in1 I fp wr G n P St) (hT : ∀ i s, St i s → s.TypeIs (.ref I) "map") (hst : St 0 s) (hfp : ∀ b ∈ fp, b < s.heap.objs.size) (hI : I ∈ fp) (hn : n ≤ sizeLine)
    (hQ : ∀ s' acc, Moved wr G s s' → ItemsOf P acc n → Q acc.toList s') : wpAny (model P0 w) A (collect (.ref I)) Q E s := by
  have hSf : s.heap.objs.size ∉ fp := fun hm => Nat.lt_irrefl _ (hfp _ hm)
  have hSI : s.heap.objs.size ≠ I := fun e => hSf (e ▸ hI)
  unfold collect
  refine wpAny_bind (wpAny_runValue (codeAny_builtin F.entry_proto_collect ?_))
  rw [Around.under_plainId F.plain_proto_collect _]
  refine wpAny_bind (wpAny_newObj_type ?_)
  refine wpAny_pure ⟨plainId_quiet F.plain_list_iadd _, codeAny_builtin F.entry_list_iadd ?_⟩
  rw [Around.under_plainId F.plain_list_iadd _]
  generalize hS : s.heap.objs.size = S at *
  have g1 : Grown s.heap (s.heap.push { cls := .type "list", data := .seq ([] : List Value).toArray }) := fun b o e => Heap.get?_push_of_some _ e
  have o1 : (s.heap.push { cls := .type "list", data := .seq ([] : List Value).toArray }).get? S = some { cls := .type "list", data := .seq #[] } := by rw [← hS]; exact Heap.get?_push_size _ rfl
  generalize s.heap.push { cls := .type "list", data := .seq ([] : List Value).toArray } = h1 at g1 o1
  have hst₁ : St 0 { s with heap := h1 } := W.frame 0 s h1 s.toks hst (Nat.le_refl _) fun b _ o e => g1 b o e
  show wpAny _ A.in1 (Builtin.List.listExtendWith (.ref S) (.ref I) (.ref S)) _ _ _
  unfold Builtin.List.listExtendWith
  refine wpAny_bind (wpAny_typeOf (hT 0 _ hst₁) ?_)
  have e1 : Builtin.List.listSameRef (.ref S) (.ref I) = false := by simp [Builtin.List.listSameRef, hSI]
  rw [if_neg (by rw [e1]; decide)]
  refine wpAny_bind (W.self 0 _ _ _ hst₁ ?_)
  refine wpAny_bind (wpAny_holding ?_)
  unfold Builtin.List.listLengthHint
  refine wpAny_bind (wpAny_specialOf (hT 0 _ hst₁) map_no_len ?_)
  show wpAny _ A.in1 (specialOf (Value.ref I) (Str.ofString "__length_hint__") >>= _) _ _ _
  refine wpAny_bind (wpAny_specialOf (hT 0 _ hst₁) map_no_hint ?_)
  refine wpAny_pure ?_
  show wpAny _ A.in1 (rule "list.extend.makes-room" >>= fun _ => Builtin.List.listTouch (.ref S) >>= fun _ => again (.builtin "list.extend.loop" ⟨[.ref S, .ref I, .ref S], []⟩)) _ _ _
  refine wpAny_bind (wpAny_rule ?_)
  refine wpAny_bind ?_
  show wpAny _ A.in1 (updateSeq S (·.push .none) >>= fun _ => updateSeq S (·.pop)) _ _ _
  refine wpAny_bind (wpAny_updateSeq o1 rfl ?_)
  have o2 := Heap.get?_update_self (Obj.mapSeq (·.push Value.none)) o1 rfl
  refine wpAny_updateSeq o2 rfl ?_
  have o3 := Heap.get?_update_self (Obj.mapSeq (·.pop)) o2 rfl
  have oth : ∀ b o, b ≠ S → h1.get? b = some o → ((h1.update S (Obj.mapSeq (·.push Value.none))).update S (Obj.mapSeq (·.pop))).get? b = some o := fun b o q e => (Heap.get?_update_other _ _ (Ne.symm q)).trans ((Heap.get?_update_other _ _ (Ne.symm q)).trans e)
  generalize (h1.update S (Obj.mapSeq (·.push Value.none))).update S (Obj.mapSeq (·.pop)) = h3 at o3 oth
  refine wpAny_pure ⟨plainId_quiet F.plain_extend_loop _, codeAny_extend_loopS W hn S hSf _ n 0 _ _ _ rfl (Nat.zero_le _) (W.frame 0 { s with heap := h1 } h3 s.toks hst₁ (Nat.le_refl _) fun b hb o e => oth b o (fun q => hSf (q ▸ hb)) e) o3 (ItemsOf.nil P) fun s' acc' c' hm hS' hacc => ?_⟩
  show wpAny _ A (load S >>= _) _ _ s'
  refine wpAny_bind (wpAny_load hS' ?_)
  have frS : s.heap.get? S = none := hS ▸ size_fresh _
  refine wpAny_pure (hQ s' acc' ⟨fun b o q e => hm.heap b o (fun z => (List.mem_cons.mp z).elim (fun z => by rw [z, frS] at e; cases e) q) (oth b o (fun z => by rw [z, frS] at e; cases e) (g1 b o e)), hm.gens, hm.drawn, hm.os, hm.toks⟩ hacc)
end Mine
end

-- M3
section
open PySem PySem.W PyProof.Rows PySem.W.X PySem.Calls PySem.Spec PySem.SeqAt
set_option Elab.async false
set_option maxRecDepth 100000
set_option maxHeartbeats 0
set_option linter.unusedVariables false
namespace Mine
theorem call_tuple_map {w : World} {A : Around} {s : Shared} {I : Addr} {fp wr : List Addr} {G : Array GenState → Array GenState → Prop} {n : Nat} {P : Nat → Value → Prop} {St : Nat → Shared → Prop} {Q E : Value → Shared → Prop}
    (W : WalksS P0 w A.in1.in1.in1 I fp wr G n P St) (hT : ∀ i s, St i s → s.TypeIs (.ref I) "map") (hst : St 0 s) (hfp : ∀ b ∈ fp, b < s.heap.objs.size) (hI : I ∈ fp) (hn : n ≤ sizeLine)
    (hQ : ∀ s' acc, Moved wr G s s' → ItemsOf P acc n → Q (.ref s'.heap.objs.size) { s' with heap := s'.heap.push { cls := .type "tuple", data := .seq acc } }) : wpAny (model P0 w) A (call (.type "tuple") [.ref I]) Q E s := by
  refine callType_codes (Q₁ := fun obj s₁ => s₁.TypeIs obj "tuple" ∧ Q obj s₁) F.called_tuple (F.typeCall_tuple_1 _) F.entry_object_init ?_ fun obj s₁ h₁ => ?_
  · refine codeAny_of_tree ?_
    show wpAny _ A.in1.in1 (do checkBuiltinCall "tuple.__new__" ⟨[.type "tuple", .ref I], []⟩; again (.builtin "tuple.__new__" ⟨[.type "tuple", .ref I], []⟩)) _ _ s
    refine wpAny_bind (wpAny_of_eq (F.newCall_tuple_1 _) (wpAny_pure ⟨plainId_quiet F.plain_tuple_new _, codeAny_builtin F.entry_tuple_new ?_⟩))
    rw [Around.under_plainId F.plain_tuple_new _]
    have hsub := sub_tuple_self
    have hinit := init_tuple_lookup
    have hmh := madeHere_tuple
    have hTI := hT 0 s hst
    wp_walk using wpAny_typeOf hTI, collect_map (hn := hn) W hT hst hfp hI
    intro s' acc hm hacc
    show wpAny _ _ (Builtin.Tuple.tupleExact acc.toList.toArray >>= fun v => ret v) _ _ _
    unfold Builtin.Tuple.tupleExact
    refine wpAny_bind (wpAny_newObj_type ?_ (by show acc.toList.toArray.size ≤ sizeLine; simp only [Array.toArray_toList]; rw [hacc.1]; exact hn))
    refine wpAny_pure ?_
    have e : acc.toList.toArray = acc := by simp
    rw [e]
    exact ⟨⟨_, Heap.get?_push_size _ rfl, rfl⟩, hQ s' acc hm hacc⟩
  · exact ⟨h₁.1, F.args_object_init_2 obj _, object_init_meets F.called_tuple.init.lookup F.called_tuple.made (by decide) P0 w A.in1 _ s₁ ⟨h₁.1, rfl, h₁.2⟩⟩
theorem strs_of_items {xs : List (Str × Tok)} {vs : List Value} (hn : vs.length = xs.length) (h : ∀ (j : Nat) v, vs[j]? = some v → ∃ p, xs[j]? = some p ∧ v = Value.str p.1 p.2) : vs = strValues xs := by
  refine List.ext_getElem? fun j => ?_
  by_cases hj : j < vs.length
  · obtain ⟨p, e1, e2⟩ := h j _ (List.getElem?_eq_getElem hj)
    rw [List.getElem?_eq_getElem hj, e2]
    simp [strValues, e1]
  · rw [List.getElem?_eq_none (by omega), List.getElem?_eq_none (by simp [strValues]; omega)]
/-- tuple(map(fspath, paths)), of two texts -/
theorem ev_tuple_map {c : Cx} {ρ : Str → Option PD} (hr : Rm c 6) {y1 y2 y3 : Str} {p1 p2 p3 q1 q2 : Pos} {pe : Expr} {x y : Str} (ht : EvV c (.Name y1 p1) (.type "tuple")) (hm : EvV c (.Name y2 p2) (.type "map")) (hf : EvV c (.Name y3 p3) (.ref 246)) (hp : EvE c ρ pe (.list [.str x, .str y]))
    (h1 : starEach [.Call (.Name y2 p2) [.Name y3 p3, pe] [] q2] c.env = (false, eval (.Call (.Name y2 p2) [.Name y3 p3, pe] [] q2) c.env) :: starEach [] c.env)
    (h2 : starEach [.Name y3 p3, pe] c.env = (false, eval (.Name y3 p3) c.env) :: starEach [pe] c.env) (h3 : starEach [pe] c.env = (false, eval pe c.env) :: starEach [] c.env) (h4 : (backTo q2 (starEach [pe] c.env)).any (·.1) = false) :
    EvE c ρ (.Call (.Name y1 p1) [.Call (.Name y2 p2) [.Name y3 p3, pe] [] q2] [] q1) (.tuple [.str x, .str y]) := by
  intro A D s a Q E k
  refine Call_ ?_
  refine ht A s _ _ a.hs.kt ?_
  refine PyProof.Rows.callWith_type1 ?_ h1 rfl
  refine args_cons ?_ h1
  refine Call_ ?_
  refine hm A s _ _ a.hs.kt ?_
  refine PyProof.Rows.callWith_type1 ?_ h2 h4
  refine args_cons ?_ h2
  refine hf A s _ _ a.hs.kt ?_
  refine args_cons ?_ h3
  refine hp A D s a _ _ fun v h₁ t₁ D₁ a₁ r₁ => ?_
  refine args_nil ?_
  have hs₁ : HS c D₁ { s with heap := h₁, toks := t₁ } := a.hs.aft a₁
  obtain ⟨X, mean, mg, mb, T⟩ := hs₁.kt
  cases r₁ with
  | list da o r =>
    rename_i l vs n
    obtain ⟨vs⟩ := vs
    cases r with
    | cons r0 r => cases r with
      | cons r1 r =>
        cases r
        cases r0 with | str _ t qt => ?_
        cases r1 with | str _ u qu => ?_
        have d1 := a.ok.d
        have u1 := a.ok.u
        have b1 := hr.1
        have b2 := hr.2
        refine mono_of (wpAny_AL (tmapA c.w l n x y t u mean mg mb { s with heap := h₁, toks := t₁ } _ _ X T o ?_) a.ok.h (by omega) (by omega))
        intro mo tp I h' tk' M mo'
        refine args_nil ?_
        have g : Grown h₁ h' := keepAll M
        obtain ⟨em, fm⟩ := M.nw _ (.head _)
        obtain ⟨et, ft⟩ := M.nw _ (.tail _ (.head _))
        obtain ⟨ei, fi⟩ := M.nw _ (.tail _ (.tail _ (.head _)))
        have ord := M.ord
        simp only [List.map_cons, List.map_nil, List.pairwise_cons, List.mem_cons, List.not_mem_nil, or_false, forall_eq_or_imp, forall_eq] at ord
        have lI : l ≠ I := fun q => by rw [← q] at fi; rw [show (({ s with heap := h₁, toks := t₁ } : Shared).heap.get? l) = h₁.get? l from rfl, o] at fi; cases fi
        refine mono_of (call_tuple_map (s := { s with heap := h', toks := tk' }) (n := 2) (map_walks (A := A.in1.in1.in1) a.ok.h (by show A.depth ≤ 500; omega) (by show A.units + 1 + 1 + 1 + 1 ≤ 5000; omega) (g := h₁) X T (I := I) (l := l) (tp := tp) (mo := mo) (n := 0) (N := h'.objs.size) (xs := [(x, t), (y, u)]) rfl (fun b o e => Heap.lt_size (g b o e)) ⟨_, o, rfl, n, rfl⟩ fi (Nat.ne_of_gt ord.1.2) (Nat.ne_of_gt ord.2.1) lI ⟨Heap.lt_size ei, Heap.lt_size et, Heap.lt_size em⟩)
          (fun i s h => ⟨_, h.2.2.2, rfl⟩) ⟨g, ⟨_, ei, rfl, rfl⟩, et, em⟩ (fun b hb => List.mem_range.mp hb) (List.mem_range.mpr (Heap.lt_size em)) (by decide) ?_)
        rintro ⟨h'', gn, dr, tk'', os⟩ acc hm hacc mo''
        have e1 : s.gens = gn := hm.gens
        have e2 : dr = s.drawn := hm.drawn
        have e3 : os = s.os := hm.os
        subst e1 e2 e3
        have gg : Grown h₁ h'' := fun b o e => hm.heap b o (fun q => by rw [List.mem_singleton] at q; rw [q] at e; rw [show h₁.get? I = none from fi] at e; cases e) (g b o e)
        have ev : acc.toList = [.str x t, .str y u] := strs_of_items (xs := [(x, t), (y, u)]) (by simpa using hacc.1) fun j v e => hacc.2 j v (by rw [← Array.getElem?_toList]; exact e)
        refine k _ _ tk'' _ (a₁.trans ((Aft.of_grown gg (Nat.le_trans mo' mo'')).trans (Aft.push _))) (.tuple (.inr rfl) (Heap.get?_push_size _ rfl) ?_)
        rw [ev]
        exact .cons (.str _ _ qt) (.cons (.str _ _ qu) .nil)
end Mine
end

-- S1
section
open PySem PySem.W PyProof.Rows PySem.W.X PySem.Calls PySem.Spec PySem.SeqAt
set_option Elab.async false
set_option maxRecDepth 100000
set_option maxHeartbeats 0
set_option linter.unusedVariables false
namespace Mine
/-- the table of a set that holds one element of hash one -/
def tab1 (led : Bool) : SetTable := { mask := 7, place := #[1], dummies := #[], finger := 0, led := led, moves := 0, plain := true }
theorem lay1 (led : Bool) (x : Value) : layNew (SetTable.fresh 0 0 led) #[] 1 x = (#[(1, x)], tab1 led, false, false) := by cases led <;> rfl
abbrev IsS0 (h : Heap) (a : Addr) (led : Bool) : Prop := h.get? a = some { cls := .type "set", data := .set #[] 0 (.fresh 0 0 led) }
abbrev IsS1 (h : Heap) (a : Addr) (led : Bool) (ep : Nat) : Prop := h.get? a = some { cls := .type "set", data := .set #[(1, .bool true)] ep (tab1 led) }
theorem put1 (led : Bool) : Obj.putSet #[(1, .bool true)] (tab1 led) { cls := .type "set", data := .set #[] 0 (.fresh 0 0 led) } = { cls := .type "set", data := .set #[(1, .bool true)] 1 (tab1 led) } := by cases led <;> rfl
section
variable {w : World} {A : Around} {s : Shared} {a : Addr} {led : Bool} {ep : Nat}
theorem hash_true {Q : Int → Shared → Prop} {E : Value → Shared → Prop} (h : ∀ tk, Q 1 { s with toks := tk }) : wpAny (model P0 w) A (pyHash (.bool true)) Q E s := by
  unfold pyHash
  show wpAny _ _ (pyHashByItsType (.bool true)) _ _ _
  have hv : [Value.bool true].any Value.onHeap = false := rfl
  refine wpAny_bind ?_
  rw [cRoomFor, if_neg (by rw [hv]; exact Bool.false_ne_true)]; refine wpAny_pure ?_
  refine wpAny_bind (wpAny_specialOf (PySem.typeIs_bool s true) F.slot_bool_hash.lookup ?_)
  show wpAny _ _ (if (some (Value.builtin "int.__hash__") == some Value.none) = true then _ else _) Q E s
  rw [if_neg (by rw [beq_builtin_none]; exact Bool.false_ne_true)]
  refine wpAny_bind (wpAny_specialOf (PySem.typeIs_bool s true) F.slot_bool_hash.lookup ?_)
  show wpAny _ _ (callSpecialIfBoundUnlessNone? (.bool true) "__hash__" _ >>= _) Q E s
  refine wpAny_bind (wpAny_callSpecialIfBoundUnlessNone?_slot (PySem.typeIs_bool s true) F.slot_bool_hash
    (wpAny_call_entry F.slot_bool_hash (PySem.typeIs_bool s true) F.entry_int_hash
      (show wpAny _ _ (do ret (← mkInt (rawHash 1))) _ _ s from wpAny_ret_mkInt ?_) (F.args_int_hash_1 _)))
  have hr := rawHash_range 1
  show wpAny _ _ (if (decide (-(2 : Int) ^ 63 ≤ rawHash 1) && decide (rawHash 1 < 2 ^ 63)) = true then _ else _) Q E _
  rw [if_pos (by rw [decide_eq_true hr.1, decide_eq_true hr.2]; rfl)]
  exact wpAny_pure (h _)
theorem state_of {es : Array (Int × Value)} {t : SetTable} {o : Obj} {Q : (Array (Int × Value) × Nat × SetTable) → Shared → Prop} {E : Value → Shared → Prop} (ho : s.heap.get? a = some o) (hd : o.data = .set es ep t) (hf : t.fits es.size = true) (h : Q (es, ep, t) s) : wpAny (model P0 w) A (setState a) Q E s := wpAny_setState_of ho hd hf h
theorem add_first {Q E : Value → Shared → Prop} (hS : IsS0 s.heap a led) (h : ∀ h' tk, IsS1 h' a led 1 → (∀ b, b ≠ a → h'.get? b = s.heap.get? b) → Q .none { s with heap := h', toks := tk }) : wpAny (model P0 w) A (call (.builtin "set.add") [.ref a, .bool true]) Q E s := by
  refine wpAny_call_entry F.slot_set_add ⟨_, hS, rfl⟩ F.entry_set_add ?_ (F.args_set_add_2 _ _)
  unfold Builtin.«set.add» Builtin.Frozenset.oneOther
  simp only [List.isEmpty_nil, bind_assoc]
  unfold Builtin.Frozenset.addrOf setAdd
  refine wpAny_bind (wpAny_pure ?_)
  try dsimp only
  refine wpAny_bind (wpAny_pure ?_)
  try dsimp only
  refine wpAny_bind ?_
  refine wpAny_holding ?_
  refine wpAny_bind (hash_true fun tk => ?_)
  unfold setAddHashed setAddHashedIn
  refine wpAny_holding (wpAny_bind (state_of hS rfl (by cases led <;> rfl) ?_))
  dsimp only
  rw [if_pos (by simp [byScan, Value.scannable, scanBound])]
  refine wpAny_bind ?_
  unfold setAddByScan
  simp only [lay1]
  refine wpAny_bind (wpAny_rule ?_)
  refine wpAny_bind (wpAny_pure ?_)
  dsimp only
  refine wpAny_bind (wpAny_pure ?_)
  rw [if_pos (show (tab1 led).plain = true from rfl)]
  refine wpAny_bind (wpAny_pure ?_)
  rw [if_pos rfl]
  have full : (!false && (tab1 led).tooFull) = false := by cases led <;> rfl
  rw [full]
  refine wpAny_bind ?_
  refine wpAny_storeSet_of (s := { s with toks := tk }) hS rfl ?_ (by show (1 : Nat) ≤ sizeLine; decide)
  rw [if_neg (by decide)]
  refine wpAny_pure ?_
  refine wpAny_pure ?_
  refine wpAny_pure ⟨_, rfl, h _ tk ?_ fun b q => Heap.get?_update_other _ _ (Ne.symm q)⟩
  have := Heap.get?_update_self (Obj.putSet #[(1, .bool true)] (tab1 led)) hS (by rw [put1]; rfl)
  rw [put1] at this
  exact this
theorem add_again {Q E : Value → Shared → Prop} (hS : IsS1 s.heap a led ep) (h : ∀ tk, Q .none { s with toks := tk }) : wpAny (model P0 w) A (call (.builtin "set.add") [.ref a, .bool true]) Q E s := by
  refine wpAny_call_entry F.slot_set_add ⟨_, hS, rfl⟩ F.entry_set_add ?_ (F.args_set_add_2 _ _)
  unfold Builtin.«set.add» Builtin.Frozenset.oneOther
  simp only [List.isEmpty_nil, bind_assoc]
  unfold Builtin.Frozenset.addrOf setAdd
  refine wpAny_bind (wpAny_pure ?_)
  try dsimp only
  refine wpAny_bind (wpAny_pure ?_)
  try dsimp only
  refine wpAny_bind ?_
  refine wpAny_holding ?_
  refine wpAny_bind (hash_true fun tk => ?_)
  unfold setAddHashed setAddHashedIn
  refine wpAny_holding (wpAny_bind (state_of hS rfl (by cases led <;> rfl) ?_))
  dsimp only
  rw [if_pos (by simp [byScan, Value.scannable, scanBound])]
  refine wpAny_bind ?_
  unfold setAddByScan
  refine wpAny_bind (wpAny_rule ?_)
  refine wpAny_bind ?_
  show wpAny _ _ (setScanFrom a (.bool true) 1 true [(1, .bool true)] 0) _ _ _
  unfold setScanFrom
  rw [if_pos (by rfl)]
  unfold setEpoch
  refine wpAny_bind (wpAny_bind (state_of hS rfl (by cases led <;> rfl) (wpAny_pure ?_)))
  refine wpAny_bind ?_
  show wpAny _ _ (eqBool (.bool true) (.bool true)) _ _ _
  unfold eqBool
  refine wpAny_holding ?_
  rw [if_pos (by rfl)]
  refine wpAny_bind (wpAny_rule (wpAny_pure ?_))
  rw [if_pos (by rfl)]
  refine wpAny_pure ?_
  refine wpAny_pure ?_
  refine wpAny_pure ?_
  exact wpAny_pure ⟨_, rfl, h tk⟩
end
/-- an iterator over such a set -/
abbrev IsSI (h : Heap) (it a : Addr) (slot i ep : Nat) : Prop := h.get? it = some { cls := .type "set_iterator", data := .fields #[rawInt slot, rawInt i, .ref a, rawInt 1, rawInt ep] }
theorem slot_set_iter : Slot "set" "__iter__" "set.__iter__" :=
  .of (owner := "set") (n := "__iter__") (by rw [typeLookup_type, builtinLookup_eq_fast]; kernel_rfl) (by decide +kernel) (by decide +kernel) (by decide +kernel)
    (by first | exact .inl (by decide +kernel) | exact .inr (by decide +kernel)) (by rw [isSubtype_type]; kernel_rfl)
theorem entry_set_iter : entryFor table "set.__iter__" = some Builtin.«frozenset.__iter__» := entryFor_alias (id' := "frozenset.__iter__") (by kernel_rfl) (by first | rfl | decide +kernel | (unfold String.splitOn; simp +decide [String.splitOnAux])) (by decide +kernel) (by kernel_rfl)
theorem slot_si_next : Slot "set_iterator" "__next__" "set_iterator.__next__" :=
  .of (owner := "set_iterator") (n := "__next__") (by rw [typeLookup_type, builtinLookup_eq_fast]; kernel_rfl) (by decide +kernel) (by decide +kernel) (by decide +kernel)
    (by first | exact .inl (by decide +kernel) | exact .inr (by decide +kernel)) (by rw [isSubtype_type]; kernel_rfl)
theorem entry_si_next : entryFor table "set_iterator.__next__" = some Builtin.«set_iterator.__next__» := entryFor_of_fast (by kernel_rfl)
theorem args_set_iter (a : Value) : argsOk "set.__iter__" ⟨[a], []⟩ := by unfold argsOk; kernel_rfl
theorem args_si_next (a : Value) : argsOk "set_iterator.__next__" ⟨[a], []⟩ := by unfold argsOk; kernel_rfl
section
variable {w : World} {A : Around} {s : Shared} {a : Addr} {led : Bool} {ep : Nat}
theorem byText {Q : Bool → Shared → Prop} {E : Value → Shared → Prop} (h : Q (w.params.followText "set-order") s) : wpAny (model P0 w) A setsByText Q E s := by
  unfold setsByText
  exact wpAny_bind (wpAny_askSetting (wpAny_pure h))
theorem iter_set {Q E : Value → Shared → Prop} (hS : IsS1 s.heap a led ep) (h : Q (.ref s.heap.objs.size) { s with heap := s.heap.push { cls := .type "set_iterator", data := .fields #[rawInt (0 : Nat), rawInt (0 : Nat), .ref a, rawInt 1, rawInt ep] } }) : wpAny (model P0 w) A (pyIter (.ref a)) Q E s := by
  have hT : s.TypeIs (.ref a) "set" := ⟨_, hS, rfl⟩
  refine wpAny_pyIter_slot hT slot_set_iter (wpAny_call_entry slot_set_iter hT entry_set_iter ?_ (args_set_iter _))
  unfold Builtin.«frozenset.__iter__» Builtin.Frozenset.slot0 slotArgs
  simp only [List.isEmpty_nil, Bool.not_true, Bool.false_eq_true, ↓reduceIte, bind_assoc, List.length_nil, bne_self_eq_false]
  refine wpAny_bind (wpAny_pure ?_)
  dsimp only
  unfold Builtin.Frozenset.addrOf Builtin.Frozenset.sizeOf
  refine wpAny_bind (wpAny_pure ?_)
  refine wpAny_bind ?_
  unfold setEntries
  refine wpAny_bind (wpAny_bind (state_of hS rfl (by cases led <;> rfl) (wpAny_pure ?_)))
  refine wpAny_pure ?_
  refine wpAny_bind ?_
  unfold setDrawn
  refine wpAny_bind (state_of hS rfl (by cases led <;> rfl) ?_)
  refine wpAny_bind (byText ?_)
  refine wpAny_pure ?_
  rw [if_neg (by cases w.params.followText "set-order" <;> cases led <;> decide)]
  refine wpAny_bind (wpAny_pure ?_)
  unfold setEpoch
  refine wpAny_bind (wpAny_bind (state_of hS rfl (by cases led <;> rfl) (wpAny_pure ?_)))
  refine wpAny_bind (wpAny_newObj_type ?_)
  exact wpAny_pure ⟨_, rfl, "set_iterator", _, ⟨_, Heap.get?_push_size _ rfl, rfl⟩, slot_si_next.lookup, h⟩
end
end Mine
end

-- S2
section
open PySem PySem.W PyProof.Rows PySem.W.X PySem.Calls PySem.Spec PySem.SeqAt
set_option Elab.async false
set_option maxRecDepth 100000
set_option maxHeartbeats 0
set_option linter.unusedVariables false
namespace Mine
section
variable {w : World} {A : Around} {s : Shared} {a it : Addr} {led : Bool} {ep : Nat}
theorem pick_one {α : Type} (f : Nat → Nat) (x : α) : pickOrder f #[x] = #[x] := by
  unfold pickOrder
  simp [pickOrder.go, Nat.mod_one]
/-- where the iterator stands after its first step -/
def slot1 (w : World) : Nat := if w.params.followText "set-order" then 0 else 2
theorem set_next1 {Q : Option (Value × Nat) → Shared → Prop} {E : Value → Shared → Prop} (hl : led = !w.params.followText "set-order") (hS : IsS1 s.heap a led ep) (h : Q (some (.bool true, slot1 w)) s) : wpAny (model P0 w) A (setNext a 0 0 ep) Q E s := by
  unfold setNext
  refine wpAny_bind (state_of hS rfl (by cases led <;> rfl) ?_)
  refine wpAny_bind (byText ?_)
  unfold slot1 at h
  cases hb : w.params.followText "set-order" with
  | true =>
    rw [hb] at h
    rw [if_pos rfl]
    rw [if_neg (by simp)]
    unfold setWalk
    refine wpAny_bind ?_
    refine wpAny_bind (state_of hS rfl (by cases led <;> rfl) ?_)
    refine wpAny_bind (byText ?_)
    rw [hb, if_pos rfl]
    refine wpAny_bind (wpAny_askSetting ?_)
    refine wpAny_pure ?_
    rw [pick_one]
    exact wpAny_pure h
  | false =>
    rw [hb] at h hl
    rw [if_neg (by decide)]
    subst hl
    exact wpAny_of_eq (a := some (.bool true, 2)) (by with_unfolding_all rfl) h
theorem set_next2 {Q : Option (Value × Nat) → Shared → Prop} {E : Value → Shared → Prop} (hl : led = !w.params.followText "set-order") (hS : IsS1 s.heap a led ep) (h : Q none s) : wpAny (model P0 w) A (setNext a (slot1 w) 1 ep) Q E s := by
  unfold setNext
  refine wpAny_bind (state_of hS rfl (by cases led <;> rfl) ?_)
  refine wpAny_bind (byText ?_)
  unfold slot1
  cases hb : w.params.followText "set-order" with
  | true =>
    rw [if_pos rfl]
    rw [if_neg (by simp)]
    unfold setWalk
    refine wpAny_bind ?_
    refine wpAny_bind (state_of hS rfl (by cases led <;> rfl) ?_)
    refine wpAny_bind (byText ?_)
    rw [hb, if_pos rfl]
    refine wpAny_bind (wpAny_askSetting ?_)
    refine wpAny_pure ?_
    rw [pick_one]
    exact wpAny_pure h
  | false =>
    rw [hb] at hl
    rw [if_neg (by decide)]
    subst hl
    exact wpAny_of_eq (a := none) (by with_unfolding_all rfl) h
theorem si_next1 {Q : Option Value → Shared → Prop} {E : Value → Shared → Prop} (hl : led = !w.params.followText "set-order") (hS : IsS1 s.heap a led ep) (hI : IsSI s.heap it a 0 0 ep) (ne : it ≠ a)
    (h : ∀ h', IsSI h' it a (slot1 w) 1 ep → (∀ b, b ≠ it → h'.get? b = s.heap.get? b) → Q (some (.bool true)) { s with heap := h' }) : wpAny (model P0 w) A (pyNext (.ref it)) Q E s := by
  have hT : s.TypeIs (.ref it) "set_iterator" := ⟨_, hI, rfl⟩
  unfold pyNext
  refine wpAny_bind (wpAny_attempt (wpAny_callSpecial?_slot (name := Str.ofString "__next__") hT slot_si_next
    (wpAny_call_entry slot_si_next hT entry_si_next ?_ (args_si_next _))))
  unfold Builtin.«set_iterator.__next__»
  refine wpAny_bind (wpAny_pure ?_)
  show wpAny _ _ (fieldsOf (.ref it) >>= _) _ _ _
  refine wpAny_bind (wpAny_fieldsOf hI rfl ?_)
  show wpAny _ _ (setEntries a >>= _) _ _ _
  unfold setEntries
  refine wpAny_bind (wpAny_bind (state_of hS rfl (by cases led <;> rfl) (wpAny_pure ?_)))
  rw [if_neg (by simp)]
  show wpAny _ _ (setNext a 0 0 ep >>= _) _ _ _
  refine wpAny_bind (set_next1 hl hS ?_)
  show wpAny _ _ (setField (.ref it) 0 (rawInt (slot1 w)) >>= _) _ _ _
  refine wpAny_bind (wpAny_setField_rec hI (by simp) fun h₁ i₁ hs₁ => ?_)
  replace hs₁ : Heap.SameBut it s.heap h₁ := hs₁
  show wpAny _ _ (setField (.ref it) 1 _ >>= _) _ _ _
  refine wpAny_bind (wpAny_setField_rec i₁ (by simp) fun h₂ i₂ hs₂ => ?_)
  replace hs₂ : Heap.SameBut it h₁ h₂ := hs₂
  refine wpAny_pure ⟨_, rfl, wpAny_pure (h h₂ ?_ fun b q => (hs₂.2 b q).trans (hs₁.2 b q))⟩
  exact i₂
theorem si_next2 {Q : Option Value → Shared → Prop} {E : Value → Shared → Prop} (hh : A.handled = none) (hl : led = !w.params.followText "set-order") (hS : IsS1 s.heap a led ep) (hI : IsSI s.heap it a (slot1 w) 1 ep) (ne : it ≠ a)
    (h : ∀ h', Heap.ExtBut it s.heap h' → Q none { s with heap := h' }) : wpAny (model P0 w) A (pyNext (.ref it)) Q E s := by
  have hT : s.TypeIs (.ref it) "set_iterator" := ⟨_, hI, rfl⟩
  unfold pyNext
  refine wpAny_bind (wpAny_attempt (wpAny_callSpecial?_slot (name := Str.ofString "__next__") hT slot_si_next
    (wpAny_call_entry slot_si_next hT entry_si_next ?_ (args_si_next _))))
  unfold Builtin.«set_iterator.__next__»
  refine wpAny_bind (wpAny_pure ?_)
  show wpAny _ _ (fieldsOf (.ref it) >>= _) _ _ _
  refine wpAny_bind (wpAny_fieldsOf hI rfl ?_)
  show wpAny _ _ (setEntries a >>= _) _ _ _
  unfold setEntries
  refine wpAny_bind (wpAny_bind (state_of hS rfl (by cases led <;> rfl) (wpAny_pure ?_)))
  rw [if_neg (by simp)]
  show wpAny _ _ (setNext a (slot1 w) 1 ep >>= _) _ _ _
  refine wpAny_bind (set_next2 hl hS ?_)
  show wpAny _ _ (setField (.ref it) 2 .none >>= _) _ _ _
  refine wpAny_bind (wpAny_setField_rec hI (by simp) fun h₁ i₁ hs₁ => ?_)
  replace hs₁ : Heap.SameBut it s.heap h₁ := hs₁
  show wpAny _ _ (newExc (.type "StopIteration") [] >>= _) _ _ _
  refine wpAny_bind ?_
  simp only [newExc, newTuple]
  refine wpAny_bind (wpAny_newObj_type ?_ (by size_fits))
  refine wpAny_bind (m := firstArgMember _ _) (wpAny_of_eq (a := Value.none) (by first | rfl | (simp only [firstArgMember]; rfl)) ?_)
  refine wpAny_newObj_type ?_ (by size_fits)
  simp only [raiseNew]
  refine wpAny_bind (wpAny_handled ?_)
  first | rw [show A.in1.handled = none from hh] | rw [hh]
  refine wpAny_bind (wpAny_pure (wpAny_throw ?_))
  refine wpAny_bind (wpAny_isInstance (T := "StopIteration") (b := true) ⟨_, Heap.get?_push_size _ rfl, rfl⟩ isSubtype_stop ?_)
  exact wpAny_pure (h _ (((hs₁.extBut).push _).push _))
/-- the one element of a set -/
theorem unpack_one {Q : List Value → Shared → Prop} {E : Value → Shared → Prop} (hh : A.handled = none) (hl : led = !w.params.followText "set-order") (hS : IsS1 s.heap a led ep) (h : ∀ h', Grown s.heap h' → Q [.bool true] { s with heap := h' }) : wpAny (model P0 w) A (unpackItems (.ref a) 1 none) Q E s := by
  have hT : s.TypeIs (.ref a) "set" := ⟨_, hS, rfl⟩
  unfold unpackItems notIterableAtAll
  refine wpAny_bind (wpAny_bind (wpAny_specialOf hT slot_set_iter.lookup ?_))
  rw [if_pos (by rfl)]
  refine wpAny_pure ?_
  rw [if_neg (by decide)]
  refine wpAny_bind (wpAny_holding (iter_set hS ?_))
  generalize hit : s.heap.objs.size = it
  have fr : s.heap.get? it = none := hit ▸ size_fresh _
  have ne : it ≠ a := fun e => by rw [e, hS] at fr; cases fr
  have g1 : Grown s.heap (s.heap.push { cls := .type "set_iterator", data := .fields #[rawInt (0 : Nat), rawInt (0 : Nat), .ref a, rawInt 1, rawInt ep] }) := fun b o e => Heap.get?_push_of_some _ e
  have i1 : IsSI (s.heap.push { cls := .type "set_iterator", data := .fields #[rawInt (0 : Nat), rawInt (0 : Nat), .ref a, rawInt 1, rawInt ep] }) it a 0 0 ep := by rw [← hit]; exact Heap.get?_push_size _ rfl
  generalize s.heap.push { cls := .type "set_iterator", data := .fields #[rawInt (0 : Nat), rawInt (0 : Nat), .ref a, rawInt 1, rawInt ep] } = h1 at g1 i1
  show wpAny _ _ (holding [.ref it] (draw (.ref it) 1) >>= _) _ _ _
  refine wpAny_bind (wpAny_holding ?_)
  unfold draw
  refine wpAny_bind (si_next1 (s := { s with heap := h1 }) hl (g1 _ _ hS) i1 ne fun h2 i2 k2 => ?_)
  refine wpAny_bind (wpAny_holding ?_)
  unfold draw
  refine wpAny_pure (wpAny_pure ?_)
  rw [if_neg (by decide)]
  have s2 : IsS1 h2 a led ep := (k2 a (Ne.symm ne)).trans (g1 _ _ hS)
  refine wpAny_bind (wpAny_holding (si_next2 (s := { s with heap := h2 }) hh hl s2 i2 ne fun h3 k3 => ?_))
  rw [if_neg (by decide)]
  refine wpAny_pure (h h3 fun b o e => ?_)
  have nb : b ≠ it := fun q => by rw [q, fr] at e; cases e
  exact k3 b o nb ((k2 b nb).trans (g1 b o e))
end
end Mine
end

-- S3
section
open PySem PySem.W PyProof.Rows PySem.W.X PySem.Calls PySem.Spec PySem.SeqAt
set_option Elab.async false
set_option maxRecDepth 100000
set_option maxHeartbeats 0
set_option linter.unusedVariables false
namespace Mine
theorem turn_set (elt target iter : Expr) (scope : Scope) (pos : Pos) (it acc : Value) (env : Env) :
    compTurn (.SetComp elt [⟨target, iter, [], 0⟩] scope pos) 0 it acc env = (do
      standAt iter.pos
      match ← pyNext it with
      | none => pure (.done .next)
      | some v =>
        letOwnedTupleGo target it v
        assign target env v
        (do let v ← eval elt env; standAt elt.pos; let _ ← call (.builtin "set.add") [acc, v])
        again (.compLoop (.SetComp elt [⟨target, iter, [], 0⟩] scope pos) 0 it acc env)) := by rfl
section
variable {w : World} {A : Around} {R : Result → Shared → Prop} {E : Value → Shared → Prop} {s : Shared}
theorem loop_set {elt target iter : Expr} {scope : Scope} {pos : Pos} {it acc : Value} {env : Env} (I : Nat → Shared → Prop)
    (turn : ∀ n s, I n s → wpAny (model P0 w) A (pyNext it) (fun r s₁ => match r with
      | none => R (.ok .next) s₁
      | some v => wpAny (model P0 w) A (assign target env v) (fun _ s₂ => wpAny (model P0 w) A (eval elt env) (fun x s₄ =>
              wpAny (model P0 w) A (call (.builtin "set.add") [acc, x]) (fun _ s₅ => ∃ m, m < n ∧ I m s₅) (notedBy (model P0 w) A env fun e s' => R (.error e) s') s₄) (notedBy (model P0 w) A env fun e s' => R (.error e) s') s₂) (notedBy (model P0 w) A env fun e s' => R (.error e) s') s₁) (notedBy (model P0 w) A env fun e s' => R (.error e) s') s)
    (n : Nat) (h : I n s) (ht : ∀ v, letOwnedTupleGo target it v = pure () := by intro _; rfl) :
    codeAny (model P0 w) A (.compLoop (.SetComp elt [⟨target, iter, [], 0⟩] scope pos) 0 it acc env) R s := by
  refine codeAny_loop rfl I (fun n s hI => ?_) n h
  show wpAny _ A ((compTurn (.SetComp elt [⟨target, iter, [], 0⟩] scope pos) 0 it acc env).onRaise (fun x => do noteFrame x env; theTreesLotGoes x)) _ _ s
  refine wpAny_noted ?_
  rw [turn_set]
  refine wpAny_bind (wpAny_standAt (wpAny_bind (wpAny_mono (turn n s hI) (fun r s₁ h₁ => ?_) fun _ _ q => q)))
  cases r with
  | none => exact wpAny_pure h₁
  | some v =>
    refine wpAny_bind (wpAny_of_eq (ht v) ?_)
    refine wpAny_bind (wpAny_mono h₁ (fun _ s₂ h₂ => ?_) fun _ _ q => q)
    refine wpAny_bind (wpAny_bind (wpAny_mono h₂ (fun x s₄ h₄ => ?_) fun _ _ q => q))
    exact wpAny_bind (wpAny_standAt (wpAny_bind (wpAny_mono h₄ (fun _ s₅ h₅ => wpAny_pure (wpAny_pure ⟨rfl, h₅⟩)) fun _ _ q => q)))
theorem start_set {elt target iter : Expr} {scope : Scope} {pos : Pos} {it acc : Value} {env : Env}
    (h0 : codeAny (model P0 w) A (.compLoop (.SetComp elt [⟨target, iter, [], 0⟩] scope pos) 0 it acc env) R s)
    (h : wpAny (model P0 w) A (pyIter it) (fun it' s' => codeAny (model P0 w) A (.compLoop (.SetComp elt [⟨target, iter, [], 0⟩] scope pos) 0 it' acc env) R s') (notedBy (model P0 w) A env fun x s' => R (.error x) s') s) :
    codeAny (model P0 w) A (.compStart (.SetComp elt [⟨target, iter, [], 0⟩] scope pos) 0 it acc env) R s := by
  refine codeAny_of_tree ?_
  show wpAny _ _ ((compStart (.SetComp elt [⟨target, iter, [], 0⟩] scope pos) 0 it acc env).onRaise (fun x => do noteFrame x env; standAt theWindowsPlace)) _ _ s
  refine wpAny_notedAt ?_
  unfold compStart
  show wpAny _ _ (ask >>= _) _ _ s
  refine wpAny_bind (wpAny_askSetting (wpAny_ite ?_))
  split
  · first
      | exact wpAny_bind (wpAny_pure (wpAny_pure (And.intro rfl h0)))
      | exact wpAny_pure (And.intro rfl h0)
  · refine wpAny_bind (wpAny_rule ?_)
    show wpAny _ _ (standAt iter.pos >>= _) _ _ s
    exact wpAny_bind (wpAny_standAt (wpAny_bind (wpAny_mono h (fun it' s' h' => wpAny_pure (And.intro rfl h')) fun _ _ x => x)))
theorem new_set {Q : Value → Shared → Prop} (h : Q (.ref s.heap.objs.size) { s with heap := s.heap.push { cls := .type "set", data := .set #[] 0 (.fresh 0 0 (!w.params.followText "set-order")) } }) : wpAny (model P0 w) A (newSet (.type "set")) Q E s := by
  unfold newSet setsByText
  refine wpAny_bind (wpAny_bind (wpAny_askSetting (wpAny_pure ?_)))
  exact wpAny_newObj_type h
end
/-- a frame's own object that is no list, no namespace, no cell, is written -/
theorem FS.obj_write {c : Cx} {W : Pr} {base : Heap} {D : Ad} {h h' : Heap} {ρ : Nm} {b : Addr} {o' : Obj} (f : FS c W base D h ρ) (w : W b) (nl : c.env.locals ≠ b) (nc : ∀ x k, c.env.cells.lookup x = some k → k ≠ b) (hn : h'.get? b = some o')
    (hs : ∀ a, a ≠ b → h'.get? a = h.get? a) (hρ : ∀ y xs, ρ y ≠ some (.own b xs)) : FS c W base D h' ρ ∧ (∀ k₁ k₂, k₁ ≤ k₂ → Aft3 W D h k₁ D h' k₂) := by
  have kp : ∀ a o, a ≠ b → h.get? a = some o → h'.get? a = some o := fun a o q e => (hs a q).trans e
  have al : ∀ a o, h.get? a = some o → ∃ o', h'.get? a = some o' := fun a o e => by
    by_cases q : a = b
    · subst q; exact ⟨_, hn⟩
    · exact ⟨o, kp a o q e⟩
  have Dk : ∀ a o, D.p a → h.get? a = some o → h'.get? a = some o := fun a o q e => kp a o (fun z => f.off a q (z ▸ w)) e
  refine ⟨⟨f.kt, fun a o e => kp a o (fun q => by rw [q, f.nw b w] at e; cases e) (f.gr a o e), f.nw, f.off, fun a q => let ⟨o, e⟩ := f.ex a q; al a o e, f.wl, f.wc, f.inj, let ⟨m, n⟩ := f.ns; ⟨m, n.at' fun o e => kp _ o nl e⟩,
    fun x k e => let ⟨v, o, e1, d1⟩ := f.cs x k e; ⟨v, o, kp k o (nc x k e) e1, d1⟩, fun x e q => ?_, f.kd, fun a q => let ⟨o, e⟩ := f.dl a q; ⟨o, Dk a o q e⟩⟩, fun k₁ k₂ m => ⟨fun a o q e => kp a o (fun z => q (z ▸ w)) e, al, fun _ q => q, fun _ q => .inl q, fun _ _ q => q, m, fun o q => ⟨o, Nat.le_trans q m⟩⟩⟩
  obtain ⟨v, va, r⟩ := f.look x e q
  refine ⟨v, ?_, ?_⟩
  · rcases va with ⟨k, m, n, em⟩ | ⟨k, cc, e1, o, e2, d2⟩
    · exact .inl ⟨k, m, n.at' fun o e => kp _ o nl e, em⟩
    · exact .inr ⟨k, cc, e1, o, kp _ o (nc x cc e1) e2, d2⟩
  · cases e with
    | dat d => exact Rd.keep (fun a o q e => ⟨q, Dk a o q e⟩) (fun _ _ q => q) r
    | own a xs =>
      obtain ⟨rfl, wa, vs', n', o, r⟩ := r
      exact ⟨rfl, wa, vs', n', kp _ _ (fun z => hρ x xs (z ▸ q)) o, r.keep (fun a o q e => ⟨q, Dk a o q e⟩) fun _ _ q => q⟩
end Mine
end

-- S4
section
open PySem PySem.W PyProof.Rows PySem.W.X PySem.Calls PySem.Spec PySem.SeqAt
set_option Elab.async false
set_option maxRecDepth 100000
set_option maxHeartbeats 0
set_option linter.unusedVariables false
namespace Mine
theorem set_block {c : Cx} {ρ : Str → Option PD} {elt iter : Expr} {x : Str} {px : Pos} {scope : Scope} {cl : List (Str × Addr)} {pos : Pos} {ds : List PD} (hne : 0 < ds.length)
    (ck : CompOk c.env scope cl x) (hi : EvI0 c ρ iter ds) 
    (he : ∀ d C, d ∈ ds → EvE (c.comp scope cl C) (dats (upd (seen cl x ρ) x (.dat d))) elt (.bool true))
    {A : Around} {D : Ad} {s : Shared} (a : At c A D s ρ) {RR : Value → Addr → Result → Shared → Prop} {E : Value → Shared → Prop}
    (k : ∀ v C h' tk' D' m', Aft D s.heap s.toks D' h' tk' → s.heap.get? C = none → ¬ D'.p C → h'.Ns C m' → (∃ ac, v = .ref ac ∧ IsS1 h' ac (!c.w.params.followText "set-order") 1 ∧ ac ≠ C) → RR v C (.ok .next) { s with heap := h', toks := tk' }) :
    wpAny (model P0 c.w) A (eval iter c.env) (fun xv s₁ => wpAny (model P0 c.w) A (pyIter xv) (fun it s₂ => wpAny (model P0 c.w) A (newSet (.type "set")) (fun acc s₃ => wpAny (model P0 c.w) A (newFunctionEnv scope c.env.globals cl [] c.env.qual none .none (some c.env)) (fun cenv s₄ =>
      codeAny (model P0 c.w) A (.compStart (.SetComp elt [⟨.Name x px, iter, [], 0⟩] scope pos) 0 it acc { cenv with scope := relabel scope c.env }) (RR acc cenv.locals) s₄) E s₃) E s₂) E s₁) E s := by
  refine hi A D s _ _ a fun I wr St h₁ t₁ D₁ src st0 a₁ hw => ?_
  refine new_set (wpAny_newFunctionEnv ck.cell (by intro y hy; simp at hy) (fun h₂ hns hsb => ?_) ck.kind)
  dsimp only at hns hsb ⊢
  have A₁ : At c A D₁ { s with heap := h₁, toks := t₁ } ρ := a.aft a₁
  generalize hHA : h₁.push { cls := .type "set", data := .set #[] 0 (.fresh 0 0 (!c.w.params.followText "set-order")) } = hA at hns hsb ⊢
  have hC : hA.objs.size = h₁.objs.size + 1 := by rw [← hHA, Heap.size_push]
  generalize hac : h₁.objs.size = ac at *
  have frC : h₁.get? hA.objs.size = none := by
    cases q : h₁.get? hA.objs.size with
    | none => rfl
    | some o => have := Heap.lt_size q; rw [hC, hac] at this; exact absurd this (Nat.not_lt.mpr (Nat.le_succ _))
  have frA : h₁.get? ac = none := hac ▸ size_fresh h₁
  have neq : ac ≠ hA.objs.size := by rw [hC]; exact Nat.ne_of_lt (Nat.lt_succ_self _)
  generalize hA.objs.size = C at *
  have old : Grown h₁ h₂ := fun b o e => by
    have bC : b ≠ C := fun q => by rw [q, frC] at e; cases e
    exact hsb.extBut b o bC (Heap.get?_push_of_some _ (hHA ▸ Heap.get?_push_of_some _ e))
  have hlist : IsS0 h₂ ac (!c.w.params.followText "set-order") := by
    refine hsb.extBut ac _ neq (Heap.get?_push_of_some _ ?_)
    rw [← hHA, ← hac]
    exact Heap.get?_push_size _ rfl
  have dD : ∀ b, D₁.p b → b ≠ C ∧ b ≠ ac := fun b q => by
    obtain ⟨o, e⟩ := A₁.hs.dl b q
    exact ⟨fun z => (by rw [z, frC] at e; cases e), fun z => (by rw [z, frA] at e; cases e)⟩
  have wD : ∀ b, wr b → b ≠ C ∧ b ≠ ac := fun b q => by
    obtain ⟨_, _, o, e⟩ := hw b q
    exact ⟨fun z => (by rw [z, frC] at e; cases e), fun z => (by rw [z, frA] at e; cases e)⟩
  have F0 : FS (c.comp scope cl C) (fun b => b = C ∨ b = ac) s.heap D₁ h₂ (seen cl x ρ) := by
    refine ⟨a.hs.kt, a₁.grown.trans old, fun b q => ?_, fun b q w => ?_, fun b q => ?_, .inl rfl, fun y k e => .inr ?_, fun y z k e e' => a.inj y z k (ck.cl.get e).1 (ck.cl.get e').1, ⟨_, hns⟩, fun y k e => ?_, fun y e q => ?_, A₁.hs.kd, fun b q => let ⟨o, e⟩ := A₁.hs.dl b q; ⟨o, old _ _ e⟩⟩
    · rcases q with rfl | rfl
      · exact a₁.grown.none frC
      · exact a₁.grown.none frA
    · exact w.elim (dD b q).1 (dD b q).2
    · rcases q with rfl | rfl
      · obtain ⟨o, _, _, e, _⟩ := hns; exact ⟨o, e⟩
      · exact ⟨_, hlist⟩
    · obtain ⟨v, o, e, _⟩ := a.cs y k (ck.cl.get e).1; exact ⟨o, e⟩
    · obtain ⟨v, o⟩ := A₁.cs y k (ck.cl.get e).1; exact ⟨v, o.keeps old⟩
    · unfold seen at q
      by_cases z : y = x
      · rw [if_pos z] at q; cases q
      rw [if_neg z] at q
      by_cases z' : (cl.lookup y).isSome = true
      · rw [if_pos z'] at q
        obtain ⟨kk, hkk⟩ := Option.isSome_iff_exists.mp z'
        obtain ⟨hl, hkd, hnl⟩ := ck.cl.get hkk
        cases qd : ρ y with
        | none => rw [qd] at q; cases q
        | some d =>
          rw [qd] at q
          cases q
          obtain ⟨v, va, r⟩ := A₁.look y d qd
          refine ⟨v, .inr ⟨hkd, kk, hkk, ?_⟩, (Aft.of_grown (D := D₁) (n := 0) (n' := 0) old).rd r⟩
          have ic : h₁.IsCell kk (some v) := by
            rcases va with ⟨_, m, nn, em⟩ | ⟨_, cc, e1, o⟩
            · rename_i kl
              rw [kl] at hnl; cases hnl
            · rw [hl] at e1; cases e1; exact o
          exact ic.keeps old
      · rw [if_neg z'] at q; cases q
  have ks : (c.comp scope cl C).env.kindOf x = some .local := lookup_relabel_local ck.x
  have sub : ∀ y e d, seen cl x ρ y = some e → (upd (seen cl x ρ) x (.dat d)) y = some e := fun y e d q => by
    by_cases z : y = x
    · unfold seen at q; rw [if_pos z] at q; cases q
    · simp only [upd, if_neg z]; exact q
  have scopek : ((c.comp scope cl C).env.scope.kind == .class || ((c.comp scope cl C).env.scope.kind == .module && (c.comp scope cl C).env.locals != (c.comp scope cl C).env.globals)) = false := by simp [compEnvC, relabel, ck.kind]
  have wb : ∀ b, wr b → s.heap.get? b = none := fun b q => (hw b q).1
  have loop : ∀ s₃ : Shared, s₃ = { s with heap := h₂, toks := t₁ + ([] : List (Str × Value)).length } →
      codeAny (model P0 c.w) A (.compLoop (.SetComp elt [⟨.Name x px, iter, [], 0⟩] scope pos) 0 (.ref I) (.ref ac) (compEnvC scope cl C c.env)) (RR (.ref ac) C) s₃ := by
    intro s₃ e₃
    refine loop_set (fun n s' => ∃ i D' h' tk, s' = { s with heap := h', toks := tk } ∧ n = ds.length + 1 - i ∧ i ≤ ds.length ∧ St i D' h' ∧ Aft3 (fun b => b = C ∨ b = ac) D s.heap s.toks D' h' tk ∧ FS (c.comp scope cl C) (fun b => b = C ∨ b = ac) s.heap D' h' (seen cl x ρ) ∧
      (∀ b, wr b → ¬ D'.p b ∧ ∃ o, h'.get? b = some o) ∧ ((i = 0 ∧ IsS0 h' ac (!c.w.params.followText "set-order")) ∨ (0 < i ∧ IsS1 h' ac (!c.w.params.followText "set-order") 1))) ?_ (ds.length + 1)
      ⟨0, D₁, h₂, _, e₃, rfl, Nat.zero_le _, ?_, ?_, F0, ?_, .inl ⟨rfl, hlist⟩⟩
    · rintro n s' ⟨i, D', h', tk, rfl, rfl, hi', st, a3, F', hw', hset⟩
      by_cases hlt : i < ds.length
      · refine src.item i ds[i] D' { s with heap := h', toks := tk } _ _ (by simp) st fun v h₃ t₃ D₃ r st' aw => ?_
        have F₃ := F'.wr aw.kept aw.sub aw.tsub aw.fresh fun b q => ⟨wb b q, (hw' b q).1, fun z => z.elim (wD b q).1 (wD b q).2⟩
        obtain ⟨mm, nn⟩ := F₃.ns
        refine wpAny_assign_Name (wpAny_storeName_local ks nn (fun h₄ n₄ hs₄ => ?_) scopek)
        obtain ⟨F₄, a₄⟩ := F₃.store_local (z := .dat ds[i]) r nn ks n₄ hs₄
        have ok : Okk A (c.comp scope cl C).dp (c.comp scope cl C).un := a.ok
        have mem : ds[i] ∈ ds := List.getElem_mem hlt
        have aS := a3.step aw wb
        have p₄ : Tk c.st D₃ (t₃ + 1) := (aS.trans (a₄ t₃ _ (Nat.le_succ _))).tk a.hs.tk
        have wk₄ : ∀ b, wr b → ¬ D₃.p b ∧ ∃ o, h₄.get? b = some o := fun b q => by
          obtain ⟨nd, o, e⟩ := hw' b q
          obtain ⟨o₃, e₃⟩ := aw.alive b o e
          obtain ⟨o₄, e₄⟩ := (a₄ 0 0 (Nat.le_refl _)).alive b o₃ e₃
          refine ⟨fun z => ?_, o₄, e₄⟩
          rcases aw.fresh b z with z | ⟨z, _⟩
          · exact nd z
          · rw [e] at z; cases z
        refine he _ C mem A D₃ { s with heap := h₄, toks := t₃ + 1 } (F₄.at ok p₄) _ _ fun v' h₅ t₅ D₅ a₅ r₅ => ?_
        cases r₅
        have F₅ := F₄.aft a₅
        have wk₅ : ∀ b, wr b → ¬ D₅.p b ∧ ∃ o, h₅.get? b = some o := fun b q => by
          obtain ⟨nd, o, e⟩ := wk₄ b q
          refine ⟨fun z => ?_, o, a₅.grown _ _ e⟩
          rcases a₅.fresh b z with z | ⟨z, _⟩
          · exact nd z
          · rw [e] at z; cases z
        have st₅ : St (i + 1) D₅ h₅ := src.frame (i + 1) D₃ D₅ h₃ h₅ st' a₅.sub a₅.tsub (fun b o q e => a₅.grown _ _ (hs₄.extBut b o (fun z => q.elim (fun q => F₃.off b q (.inl z)) fun q => (wD b q).1 z) e)) fun b q => (wk₅ b q).1
        have a35 : Aft3 (fun b => b = C ∨ b = ac) D s.heap s.toks D₅ h₅ t₅ := aS.trans ((a₄ t₃ _ (Nat.le_succ _)).trans (Aft.two a₅))
        have keepS : ∀ o, h'.get? ac = some o → h₅.get? ac = some o := fun o e => a₅.grown _ _ (hs₄.extBut _ _ neq (aw.kept _ _ (fun q => (wD _ q).2 rfl) e))
        rcases hset with ⟨rfl, h0⟩ | ⟨hp, h1⟩
        · refine mono_of (add_first (s := { s with heap := h₅, toks := t₅ }) (keepS _ h0) fun h₆ t₆ s₆ ot mo => ?_)
          have nc : ∀ y k, (c.comp scope cl C).env.cells.lookup y = some k → k ≠ ac := fun y k e q => by
            obtain ⟨v, o, e1, d1⟩ := F₅.cs y k e
            rw [q, keepS _ h0] at e1; cases e1; cases d1
          have hρ : ∀ y xs, (upd (seen cl x ρ) x (.dat ds[0])) y ≠ some (.own ac xs) := fun y xs q => by
            by_cases z : y = x
            · simp only [upd, if_pos z] at q; cases q
            · simp only [upd, if_neg z] at q
              obtain ⟨d, z⟩ := seen_dat q
              cases z
          obtain ⟨F₆, a₆⟩ := F₅.obj_write (.inr rfl) (Ne.symm neq) nc s₆ ot hρ
          have st₆ : St (0 + 1) D₅ h₆ := src.frame (0 + 1) D₅ D₅ h₅ h₆ st₅ (fun _ q => q) (fun _ _ q => q) (fun b o q e => (ot b (q.elim (fun q z => F₅.off b q (.inr z)) fun q => (wD b q).2)).trans e) fun b q => (wk₅ b q).1
          exact ⟨ds.length + 1 - (0 + 1), by omega, 0 + 1, D₅, h₆, t₆, rfl, rfl, hlt, st₆, a35.trans (a₆ _ _ mo), F₆.less fun y e q => sub y e _ q, fun b q => ⟨(wk₅ b q).1, let ⟨o, e⟩ := (wk₅ b q).2; ⟨o, (ot b (wD b q).2).trans e⟩⟩, .inr ⟨Nat.succ_pos _, s₆⟩⟩
        · refine mono_of (add_again (s := { s with heap := h₅, toks := t₅ }) (keepS _ h1) fun t₆ mo => ?_)
          exact ⟨ds.length + 1 - (i + 1), by omega, i + 1, D₅, h₅, t₆, rfl, rfl, hlt, st₅, a35.trans (Aft3.refl _ _ _ mo), F₅.less fun y e q => sub y e _ q, wk₅, .inr ⟨Nat.succ_pos _, keepS _ h1⟩⟩
      · obtain rfl : i = ds.length := by omega
        refine src.done D' { s with heap := h', toks := tk } _ _ st fun h₃ t₃ mo kp => ?_
        have F₃ : FS (c.comp scope cl C) (fun b => b = C ∨ b = ac) s.heap D' h₃ (seen cl x ρ) := F'.wr kp (fun _ q => q) (fun _ _ q => q) (fun _ q => .inl q) fun b q => ⟨wb b q, (hw' b q).1, fun z => z.elim (wD b q).1 (wD b q).2⟩
        obtain ⟨mm, nn⟩ := F₃.ns
        have h1 : IsS1 h' ac (!c.w.params.followText "set-order") 1 := by
          rcases hset with ⟨e, _⟩ | ⟨_, h1⟩
          · omega
          · exact h1
        have l₃ : IsS1 h₃ ac (!c.w.params.followText "set-order") 1 := kp _ _ (fun q => (wD _ q).2 rfl) h1
        refine k _ C h₃ t₃ D' mm ⟨F₃.gr, fun b q => a3.sub b q, fun b q => ?_, a3.tsub, Nat.le_trans a3.mono mo, fun o q => let ⟨o', q'⟩ := a3.ok o q; ⟨o', Nat.le_trans q' mo⟩⟩ (a₁.grown.none frC) (fun q => F₃.off C q (.inl rfl)) nn ⟨ac, rfl, l₃, neq⟩
        rcases a3.fresh b q with z | z | ⟨z, _⟩
        · exact .inl z
        · exact absurd z (F'.off b q)
        · obtain ⟨o, e⟩ := F₃.dl b q; exact .inr ⟨z, o, e⟩
    · exact src.frame 0 D₁ D₁ h₁ h₂ st0 (fun _ q => q) (fun _ _ q => q) (fun b o _ e => old b o e) fun b q => (hw b q).2.1
    · exact Aft3.trans (Aft.two a₁) (Aft.two (Aft.of_grown old))
    · exact fun b q => ⟨(hw b q).2.1, let ⟨o, e⟩ := (hw b q).2.2; ⟨o, old _ _ e⟩⟩
  exact start_set (loop _ rfl) (src.self 0 D₁ _ _ _ (src.frame 0 D₁ D₁ h₁ h₂ st0 (fun _ q => q) (fun _ _ q => q) (fun b o _ e => old b o e) fun b q => (hw b q).2.1) (loop _ rfl))

theorem ss_unpack_set {c : Cx} {W : Pr} {base : Heap} {ρ : Nm} {P : PF → Nm → Prop} {elt iter : Expr} {x y : Str} {px py tp spos pos : Pos} {kk : Nat} {scope : Scope} {cl : List (Str × Addr)} {ds : List PD} {rest : List Stmt} (hne : 0 < ds.length) (hy : Wr c W y)
    (ck : CompOk c.env scope cl x) (hi : EvI0 c (dats ρ) iter ds)
    (he : ∀ d C, d ∈ ds → EvE (c.comp scope cl C) (dats (upd (seen cl x (dats ρ)) x (.dat d))) elt (.bool true))
    (hs : ∀ x, foldedSetIterable iter c.env x = pure x) (hsw : swapsWithSole [.Tuple [.Name y py] kk tp] (.SetComp elt [⟨.Name x px, iter, [], 0⟩] scope pos) spos.line c.env = pure false) (hsw2 : swappedStores [.Tuple [.Name y py] kk tp] (.SetComp elt [⟨.Name x px, iter, [], 0⟩] scope pos) c.env = pure none)
    (hev : eval (.SetComp elt [⟨.Name x px, iter, [], 0⟩] scope pos) c.env = comprehension (.SetComp elt [⟨.Name x px, iter, [], 0⟩] scope pos) scope c.env (firstIterPos [⟨.Name x px, iter, [], 0⟩] pos) (newSet (.type "set")) false (eval iter c.env))
    (h : EvSs c W base rest (upd ρ y (.dat (.bool true))) P) : EvSs c W base (.Assign [.Tuple [.Name y py] kk tp] (.SetComp elt [⟨.Name x px, iter, [], 0⟩] scope pos) spos :: rest) ρ P := by
  intro A D s Q E ok p₀ F k
  refine wpAny_execs_cons ?_
  refine PyProof.Rows.Assign_Tuple ?_ hsw hsw2
  rw [hev]
  refine wpAny_comprehension_free (use := none) rfl hs ck.clos ck.kind ck.names ?_
  refine set_block hne ck hi he (F.at ok p₀) (RR := fun acc C => compPost (model P0 c.w) A E none _ acc C) ?_
  intro v C h' tk' D' m' a' hC nd hn hac
  obtain ⟨ac, rfl, s1, neq⟩ := hac
  refine ⟨m', hn, fun h₃ hs₃ => ?_⟩
  have F' := F.aft a'
  have nW : ¬ W C := fun w => by obtain ⟨o, e⟩ := F.ex C w; rw [hC] at e; cases e
  have bC : base.get? C = none := by
    cases q : base.get? C with
    | none => rfl
    | some o => have := F.gr C o q; rw [hC] at this; cases this
  have F₃ : FS c W base D' h₃ ρ := F'.wr (wr := fun b => b = C) (fun b o q e => hs₃.extBut b o q e) (fun _ q => q) (fun _ _ q => q) (fun _ q => .inl q) fun b q => by subst q; exact ⟨bC, nd, nW⟩
  have a₃ : Aft D s.heap s.toks D' h₃ tk' := a'.but hs₃ hC nd
  have s3 : IsS1 h₃ ac (!c.w.params.followText "set-order") 1 := hs₃.extBut _ _ neq s1
  show wpAny (model P0 c.w) A (assign (.Tuple [.Name y py] kk tp) c.env (.ref ac)) _ _ _
  rw [arm_assign_Tuple]
  refine wpAny_bind (wpAny_standAt ?_)
  show wpAny _ _ (holding [.ref ac] (unpackItems (.ref ac) 1 none) >>= _) _ _ _
  refine wpAny_bind (wpAny_holding (unpack_one (s := { s with heap := h₃, toks := tk' }) ok.h rfl s3 fun h₄ g₄ => ?_))
  have a₄ : Aft D' h₃ tk' D' h₄ tk' := Aft.of_grown g₄
  have F₄ := F₃.aft a₄
  refine wpAny_assignInOrder_more (wpAny_assign_Name (store (s := { s with heap := h₄, toks := tk' }) (z := .dat (.bool true)) hy F₄ (.bool true) fun h₅ t₅ a₅ F₅ => ?_))
  refine wpAny_assignInOrder_none ?_
  have tot : Aft3 W D s.heap s.toks D' h₅ t₅ := (Aft.two (a₃.trans a₄)).trans a₅
  exact h A D' { s with heap := h₅, toks := t₅ } Q E ok (tot.tk p₀) F₅ fun fl pf ρ' h₆ t₆ D₆ hp a₆ f₆ fr => k fl pf ρ' h₆ t₆ D₆ hp (tot.trans a₆) f₆ fr
end Mine
end

-- E3
section
open PySem PySem.W PyProof.Rows PySem.W.X PySem.Calls PySem.Spec PySem.SeqAt
set_option Elab.async false
set_option maxRecDepth 100000
set_option maxHeartbeats 0
set_option linter.unusedVariables false
namespace Mine
open AutoSeq1 (wpAny_loadPart')
/-- two lists of texts, in order -/
def cmpD (r : Str → Str → Bool) (b : Bool) : List Str → List Str → Bool
  | x :: xs, y :: ys => if x == y then cmpD r b xs ys else r x y
  | _, _ => b
def ltS (x y : Str) : Bool := x.cps.toList < y.cps.toList
def gtS (x y : Str) : Bool := y.cps.toList < x.cps.toList
theorem rc_lt {w : World} {A : Around} {s : Shared} {x y : Str} {t u : Tok} {Q E : Value → Shared → Prop} (h : Q (.bool (ltS x y)) s) : wpAny (model P0 w) A (richCompare .Lt (.str x t) (.str y u)) Q E s := PySem.P.lt_str h
theorem rc_gt {w : World} {A : Around} {s : Shared} {x y : Str} {t u : Tok} {Q E : Value → Shared → Prop} (h : Q (.bool (gtS x y)) s) : wpAny (model P0 w) A (richCompare .Gt (.str x t) (.str y u)) Q E s := PySem.P.gt_str h
/-- what the model's calls of one program meet -/
def MeetsP (w : World) (t : Sem Fin) (S : Around → (Result → Shared → Prop) → Shared → Prop) : Prop := ∀ (A : Around) (R : Result → Shared → Prop) (s : Shared), S A R s →
    wpAny (model P0 w) A.in1 t (fun fin s' => match fin with | .done f => R (.ok f) s' | .again c' => c'.quiet = true ∧ codeAny (model P0 w) A c' R s') (fun e s' => R (.error e) s') s
theorem strsAre_get : ∀ {vs : List Value} {xs : List Str}, StrsAre vs xs → vs.length = xs.length ∧ ∀ (i : Nat) x, xs[i]? = some x → ∃ t, vs[i]? = some (.str x t)
  | _, _, .nil => ⟨rfl, fun i x e => by simp at e⟩
  | _, _, .cons x t r => by
    obtain ⟨h1, h2⟩ := strsAre_get r
    refine ⟨by simp [h1], fun i y e => ?_⟩
    cases i with
    | zero => simp at e; subst e; exact ⟨t, by simp⟩
    | succ i => simp at e; obtain ⟨u, e'⟩ := h2 i y e; exact ⟨u, by simpa using e'⟩
theorem cmpD_end {r : Str → Str → Bool} {b : Bool} {xs ys : List Str} (h : xs = [] ∨ ys = []) : cmpD r b xs ys = b := by
  rcases h with rfl | rfl
  · cases ys <;> rfl
  · cases xs <;> rfl

theorem lt_loop (w : World) (l b : Addr) (items items2 : Array Value) (n n2 : Nat) (xs ys : List Str) (hx : StrsAre items.toList xs) (hy : StrsAre items2.toList ys) (k : Nat) :
    ∀ i : Nat, items.size - i = k → MeetsP w (Builtin.«list.__eq__.loop» ⟨[.ref l, .ref b, rawInt i, rawInt 0], []⟩)
      (fun A R s => s.heap.get? l = some { cls := .type "list", dict := none, data := .seq items n, slots := #[] } ∧ s.heap.get? b = some { cls := .type "list", dict := none, data := .seq items2 n2, slots := #[] } ∧
        R (.ok (.ret (.bool (cmpD ltS (decide (xs.length < ys.length)) (xs.drop i) (ys.drop i))))) s) := by
  obtain ⟨lx, gx⟩ := strsAre_get hx
  obtain ⟨ly, gy⟩ := strsAre_get hy
  rw [Array.length_toList] at lx ly
  have stop : ∀ i, (xs.length ≤ i ∨ ys.length ≤ i) → MeetsP w (Builtin.«list.__eq__.loop» ⟨[.ref l, .ref b, rawInt i, rawInt 0], []⟩)
      (fun A R s => s.heap.get? l = some { cls := .type "list", dict := none, data := .seq items n, slots := #[] } ∧ s.heap.get? b = some { cls := .type "list", dict := none, data := .seq items2 n2, slots := #[] } ∧
        R (.ok (.ret (.bool (cmpD ltS (decide (xs.length < ys.length)) (xs.drop i) (ys.drop i))))) s) := by
    intro i hi A R s h
    obtain ⟨hp, g, d, tk, os⟩ := s; obtain ⟨hl, hb, h⟩ := h
    rw [cmpD_end (hi.imp (fun h => List.drop_eq_nil_of_le h) fun h => List.drop_eq_nil_of_le h)] at h
    wp_walk using wpAny_loadPart' hl, wpAny_loadPart' hb
    by_cases hxi : xs.length ≤ i
    · have hi1 : items[((i : Nat) : Int).toNat]? = none := by simp; omega
      rw [hi1]
      wp_walk using wpAny_loadPart' hl, wpAny_loadPart' hb
      rw [← lx, ← ly] at h
      exact h
    · have hyi : ys.length ≤ i := hi.resolve_left hxi
      have hi2 : items2[((i : Nat) : Int).toNat]? = none := by simp; omega
      have hi1 : items[((i : Nat) : Int).toNat]? = some (items[i]'(by omega)) := by simp
      rw [hi1, hi2]
      wp_walk using wpAny_loadPart' hl, wpAny_loadPart' hb
      rw [← lx, ← ly] at h
      exact h
  induction k with
  | zero => exact fun i hk => stop i (.inl (by omega))
  | succ k ih =>
    intro i hk
    by_cases hyi : ys.length ≤ i
    · exact stop i (.inr hyi)
    intro A R s h
    obtain ⟨hp, g, d, tk, os⟩ := s; obtain ⟨hl, hb, h⟩ := h
    wp_walk using wpAny_loadPart' hl, wpAny_loadPart' hb
    have hxi : i < xs.length := by omega
    have hyi : i < ys.length := by omega
    obtain ⟨t, e1⟩ := gx i _ (List.getElem?_eq_getElem hxi)
    obtain ⟨u, e2⟩ := gy i _ (List.getElem?_eq_getElem hyi)
    rw [Array.getElem?_toList] at e1 e2
    have hi1 : items[((i : Nat) : Int).toNat]? = some (.str xs[i] t) := by simpa using e1
    have hi2 : items2[((i : Nat) : Int).toNat]? = some (.str ys[i] u) := by simpa using e2
    have hc : ((i : Int) + 1) = ((i + 1 : Nat) : Int) := by push_cast; rfl
    rw [List.drop_eq_getElem_cons hxi, List.drop_eq_getElem_cons hyi, cmpD] at h
    rw [hi1, hi2]
    refine wpAny_bind (eqGives_str xs[i] ys[i] t u P0 w _ _ _ _ ?_)
    cases hb' : xs[i] == ys[i] with
    | true =>
      rw [hb', if_pos rfl] at h
      wp_walk
      rw [hc]
      exact ⟨plainId_quiet MeetsSeq3.plain_eq_loop _, codeAny_builtin MeetsSeq3.entry_eq_loop (by
        rw [Around.under_plainId MeetsSeq3.plain_eq_loop _]
        exact ih (i + 1) (by omega) A R _ ⟨hl, hb, h⟩)⟩
    | false =>
      rw [hb', if_neg (by decide)] at h
      wp_walk using wpAny_loadPart' hl, wpAny_loadPart' hb
      rw [hi1, hi2]
      refine wpAny_bind (rc_lt ?_)
      wp_walk
      exact h
theorem list_lt (w : World) (l b : Addr) (items items2 : Array Value) (n n2 : Nat) (xs ys : List Str) (hx : StrsAre items.toList xs) (hy : StrsAre items2.toList ys) :
    MeetsP w (Builtin.«list.__lt__» ⟨[.ref l, .ref b], []⟩)
      (fun A R s => s.heap.get? l = some { cls := .type "list", dict := none, data := .seq items n, slots := #[] } ∧ s.heap.get? b = some { cls := .type "list", dict := none, data := .seq items2 n2, slots := #[] } ∧
        R (.ok (.ret (.bool (cmpD ltS (decide (xs.length < ys.length)) xs ys)))) s) := by
  intro A R s h
  obtain ⟨hp, g, d, tk, os⟩ := s; obtain ⟨hl, hb, h⟩ := h
  have f3 := AutoSeq1.sub_list_list
  wp_walk using wpAny_loadPart' hl, wpAny_loadPart' hb
  exact ⟨plainId_quiet MeetsSeq3.plain_eq_loop _, codeAny_builtin MeetsSeq3.entry_eq_loop (by
    rw [Around.under_plainId MeetsSeq3.plain_eq_loop _]
    exact lt_loop w l b items items2 n n2 xs ys hx hy _ 0 rfl A R _ ⟨hl, hb, by simpa using h⟩)⟩
theorem rc_lt_list {w : World} {A : Around} {s : Shared} {l b : Addr} {items items2 : Array Value} {n n2 : Nat} {xs ys : List Str} {Q E : Value → Shared → Prop} (hl : s.heap.get? l = some { cls := .type "list", dict := none, data := .seq items n, slots := #[] }) (hb : s.heap.get? b = some { cls := .type "list", dict := none, data := .seq items2 n2, slots := #[] })
    (hx : StrsAre items.toList xs) (hy : StrsAre items2.toList ys) (hu : A.units < cLine) (h : Q (.bool (cmpD ltS (decide (xs.length < ys.length)) xs ys)) s) : wpAny (model P0 w) A (richCompare .Lt (.ref l) (.ref b)) Q E s :=
  wpAny_richCompare_same_room ⟨_, hl, rfl⟩ ⟨_, hb, rfl⟩ F.slot_list_lt (wpAny_call (codeAny_call_builtin F.slot_list_lt.plain F.entry_list_lt (F.slot_list_lt.check _ _ _ _ _ _ _ _ ⟨_, hl, rfl⟩ (F.args_list_lt_2 _ _)
    (list_lt w l b items items2 n n2 xs ys hx hy A (wants (fun v s' => v ≠ .notImplemented ∧ Q v s') E) s ⟨hl, hb, ⟨by simp, h⟩⟩)))) hu

theorem gt_loop (w : World) (l b : Addr) (items items2 : Array Value) (n n2 : Nat) (xs ys : List Str) (hx : StrsAre items.toList xs) (hy : StrsAre items2.toList ys) (k : Nat) :
    ∀ i : Nat, items.size - i = k → MeetsP w (Builtin.«list.__eq__.loop» ⟨[.ref l, .ref b, rawInt i, rawInt 4], []⟩)
      (fun A R s => s.heap.get? l = some { cls := .type "list", dict := none, data := .seq items n, slots := #[] } ∧ s.heap.get? b = some { cls := .type "list", dict := none, data := .seq items2 n2, slots := #[] } ∧
        R (.ok (.ret (.bool (cmpD gtS (decide (xs.length > ys.length)) (xs.drop i) (ys.drop i))))) s) := by
  obtain ⟨lx, gx⟩ := strsAre_get hx
  obtain ⟨ly, gy⟩ := strsAre_get hy
  rw [Array.length_toList] at lx ly
  have stop : ∀ i, (xs.length ≤ i ∨ ys.length ≤ i) → MeetsP w (Builtin.«list.__eq__.loop» ⟨[.ref l, .ref b, rawInt i, rawInt 4], []⟩)
      (fun A R s => s.heap.get? l = some { cls := .type "list", dict := none, data := .seq items n, slots := #[] } ∧ s.heap.get? b = some { cls := .type "list", dict := none, data := .seq items2 n2, slots := #[] } ∧
        R (.ok (.ret (.bool (cmpD gtS (decide (xs.length > ys.length)) (xs.drop i) (ys.drop i))))) s) := by
    intro i hi A R s h
    obtain ⟨hp, g, d, tk, os⟩ := s; obtain ⟨hl, hb, h⟩ := h
    rw [cmpD_end (hi.imp (fun h => List.drop_eq_nil_of_le h) fun h => List.drop_eq_nil_of_le h)] at h
    wp_walk using wpAny_loadPart' hl, wpAny_loadPart' hb
    by_cases hxi : xs.length ≤ i
    · have hi1 : items[((i : Nat) : Int).toNat]? = none := by simp; omega
      rw [hi1]
      wp_walk using wpAny_loadPart' hl, wpAny_loadPart' hb
      rw [← lx, ← ly] at h
      exact h
    · have hyi : ys.length ≤ i := hi.resolve_left hxi
      have hi2 : items2[((i : Nat) : Int).toNat]? = none := by simp; omega
      have hi1 : items[((i : Nat) : Int).toNat]? = some (items[i]'(by omega)) := by simp
      rw [hi1, hi2]
      wp_walk using wpAny_loadPart' hl, wpAny_loadPart' hb
      rw [← lx, ← ly] at h
      exact h
  induction k with
  | zero => exact fun i hk => stop i (.inl (by omega))
  | succ k ih =>
    intro i hk
    by_cases hyi : ys.length ≤ i
    · exact stop i (.inr hyi)
    intro A R s h
    obtain ⟨hp, g, d, tk, os⟩ := s; obtain ⟨hl, hb, h⟩ := h
    wp_walk using wpAny_loadPart' hl, wpAny_loadPart' hb
    have hxi : i < xs.length := by omega
    have hyi : i < ys.length := by omega
    obtain ⟨t, e1⟩ := gx i _ (List.getElem?_eq_getElem hxi)
    obtain ⟨u, e2⟩ := gy i _ (List.getElem?_eq_getElem hyi)
    rw [Array.getElem?_toList] at e1 e2
    have hi1 : items[((i : Nat) : Int).toNat]? = some (.str xs[i] t) := by simpa using e1
    have hi2 : items2[((i : Nat) : Int).toNat]? = some (.str ys[i] u) := by simpa using e2
    have hc : ((i : Int) + 1) = ((i + 1 : Nat) : Int) := by push_cast; rfl
    rw [List.drop_eq_getElem_cons hxi, List.drop_eq_getElem_cons hyi, cmpD] at h
    rw [hi1, hi2]
    refine wpAny_bind (eqGives_str xs[i] ys[i] t u P0 w _ _ _ _ ?_)
    cases hb' : xs[i] == ys[i] with
    | true =>
      rw [hb', if_pos rfl] at h
      wp_walk
      rw [hc]
      exact ⟨plainId_quiet MeetsSeq3.plain_eq_loop _, codeAny_builtin MeetsSeq3.entry_eq_loop (by
        rw [Around.under_plainId MeetsSeq3.plain_eq_loop _]
        exact ih (i + 1) (by omega) A R _ ⟨hl, hb, h⟩)⟩
    | false =>
      rw [hb', if_neg (by decide)] at h
      wp_walk using wpAny_loadPart' hl, wpAny_loadPart' hb
      rw [hi1, hi2]
      refine wpAny_bind (rc_gt ?_)
      wp_walk
      exact h
theorem list_gt (w : World) (l b : Addr) (items items2 : Array Value) (n n2 : Nat) (xs ys : List Str) (hx : StrsAre items.toList xs) (hy : StrsAre items2.toList ys) :
    MeetsP w (Builtin.«list.__gt__» ⟨[.ref l, .ref b], []⟩)
      (fun A R s => s.heap.get? l = some { cls := .type "list", dict := none, data := .seq items n, slots := #[] } ∧ s.heap.get? b = some { cls := .type "list", dict := none, data := .seq items2 n2, slots := #[] } ∧
        R (.ok (.ret (.bool (cmpD gtS (decide (xs.length > ys.length)) xs ys)))) s) := by
  intro A R s h
  obtain ⟨hp, g, d, tk, os⟩ := s; obtain ⟨hl, hb, h⟩ := h
  have f3 := AutoSeq1.sub_list_list
  wp_walk using wpAny_loadPart' hl, wpAny_loadPart' hb
  exact ⟨plainId_quiet MeetsSeq3.plain_eq_loop _, codeAny_builtin MeetsSeq3.entry_eq_loop (by
    rw [Around.under_plainId MeetsSeq3.plain_eq_loop _]
    exact gt_loop w l b items items2 n n2 xs ys hx hy _ 0 rfl A R _ ⟨hl, hb, by simpa using h⟩)⟩
theorem rc_gt_list {w : World} {A : Around} {s : Shared} {l b : Addr} {items items2 : Array Value} {n n2 : Nat} {xs ys : List Str} {Q E : Value → Shared → Prop} (hl : s.heap.get? l = some { cls := .type "list", dict := none, data := .seq items n, slots := #[] }) (hb : s.heap.get? b = some { cls := .type "list", dict := none, data := .seq items2 n2, slots := #[] })
    (hx : StrsAre items.toList xs) (hy : StrsAre items2.toList ys) (hu : A.units < cLine) (h : Q (.bool (cmpD gtS (decide (xs.length > ys.length)) xs ys)) s) : wpAny (model P0 w) A (richCompare .Gt (.ref l) (.ref b)) Q E s :=
  wpAny_richCompare_same_room ⟨_, hl, rfl⟩ ⟨_, hb, rfl⟩ F.slot_list_gt (wpAny_call (codeAny_call_builtin F.slot_list_gt.plain F.entry_list_gt (F.slot_list_gt.check _ _ _ _ _ _ _ _ ⟨_, hl, rfl⟩ (F.args_list_gt_2 _ _)
    (list_gt w l b items items2 n n2 xs ys hx hy A (wants (fun v s' => v ≠ .notImplemented ∧ Q v s') E) s ⟨hl, hb, ⟨by simp, h⟩⟩)))) hu
end Mine
end

-- E4
section
open PySem PySem.W PyProof.Rows PySem.W.X PySem.Calls PySem.Spec PySem.SeqAt
set_option Elab.async false
set_option maxRecDepth 100000
set_option maxHeartbeats 0
set_option linter.unusedVariables false
namespace Mine
theorem rd_strs {D : Ad} {h : Heap} {v : Value} {xs : List Str} (r : Rd D h v (strsD xs)) : ∃ a vs n, v = .ref a ∧ h.get? a = some ⟨.type "list", none, .seq vs n, #[]⟩ ∧ StrsAre vs.toList xs := by
  unfold strsD at r
  cases r with
  | list da o r => exact ⟨_, _, _, rfl, o, strs_rdAll r⟩

theorem call_min2 {w : World} {A : Around} (hh : A.handled = none) {s : Shared} {l : Addr} {v0 v1 : Value} {bb : Bool} {n : Nat} {Q E : Value → Shared → Prop} (hl : s.heap.get? l = some ⟨.type "list", none, .seq #[v0, v1] n, #[]⟩)
    (hc : ∀ (s' : Shared) (Q E : Value → Shared → Prop), Grown s.heap s'.heap → Q (.bool bb) s' → wpAny (model P0 w) A.in1 (richCompare .Lt v1 v0) Q E s')
    (hQ : ∀ h' tk', Grown s.heap h' → Q (if bb then v1 else v0) { s with heap := h', toks := tk' }) : wpAny (model P0 w) A (call (.builtin "min") [.ref l]) Q E s := by
  have hname : (toString "min" ++ toString ".loop" : String) = "min.loop" := by decide
  refine call_function_tree F.kind_min F.plain_min F.entry_min (F.args_min1 _) ?_
  show wpAny _ A.in1 (Builtin.Builtins.bindParams "min" ["key", "default"] 0 ⟨[], []⟩ >>= _) _ _ s
  refine wpAny_bind (wpAny_of_eq (show Builtin.Builtins.bindParams "min" ["key", "default"] 0 ⟨[], []⟩ = pure [none, none] from rfl) ?_)
  refine wpAny_bind (wpAny_pure ?_)
  have isl : s.heap.IsList l #[v0, v1] := ⟨_, hl, rfl, n, rfl⟩
  have hlt : l < s.heap.objs.size := Heap.lt_size hl
  refine wpAny_bind (wpAny_pyIter_list isl ?_)
  generalize hI : s.heap.objs.size = I
  have frI : s.heap.get? I = none := hI ▸ size_fresh _
  have g1 : Grown s.heap (s.heap.push { cls := .type "list_iterator", data := .fields #[.ref l, .int 0 0] }) := fun b o e => Heap.get?_push_of_some _ e
  have it1 : (s.heap.push { cls := .type "list_iterator", data := .fields #[.ref l, .int 0 0] }).IsListIter I l 0 := ⟨_, by rw [← hI]; exact Heap.get?_push_size _ rfl, rfl, rfl⟩
  generalize s.heap.push { cls := .type "list_iterator", data := .fields #[.ref l, .int 0 0] } = h1 at g1 it1
  refine wpAny_bind (wpAny_newObj_type ?_)
  generalize hS : h1.objs.size = S
  have frS1 : h1.get? S = none := hS ▸ size_fresh _
  have frS : s.heap.get? S = none := g1.none frS1
  have IS : I ≠ S := fun e => by obtain ⟨o, q, _⟩ := it1; rw [e, frS1] at q; cases q
  have g2 : Grown h1 (h1.push { cls := .type "list", data := .seq ([] : List Value).toArray }) := fun b o e => Heap.get?_push_of_some _ e
  have hs2 : (h1.push { cls := .type "list", data := .seq ([] : List Value).toArray }).get? S = some ⟨.type "list", none, .seq #[] 0, #[]⟩ := by rw [← hS]; exact Heap.get?_push_size _ rfl
  have it2 := it1.at (h' := h1.push { cls := .type "list", data := .seq ([] : List Value).toArray }) fun o e => g2 _ _ e
  have g12 := g1.trans g2
  generalize h1.push { cls := .type "list", data := .seq ([] : List Value).toArray } = h2 at hs2 it2 g12
  rw [hname]
  have hl2 : h2.IsList l #[v0, v1] := ⟨_, g12 _ _ hl, rfl, n, rfl⟩
  have lI : l ≠ I := by rw [← hI]; exact Nat.ne_of_lt hlt
  have lS : l ≠ S := fun e => by rw [← e, hl] at frS; cases frS
  have old : ∀ {h h' : Heap}, Grown s.heap h → (∀ b o, b ≠ I → b ≠ S → h.get? b = some o → h'.get? b = some o) → Grown s.heap h' := fun g k b o e => k b o (fun q => by rw [q, frI] at e; cases e) (fun q => by rw [q, frS] at e; cases e) (g b o e)
  -- the last turn
  have last : ∀ (h : Heap) (tk c : Nat) (vb : Value), Grown s.heap h → h.IsListIter I l 2 → h.get? S = some ⟨.type "list", none, .seq #[vb, vb] c, #[]⟩ → vb = (if bb then v1 else v0) →
      codeAny (model P0 w) A (.builtin "min.loop" ⟨[.ref I, .none, .ref S], []⟩) (fun r s' => match r with | .ok (.ret v) => Q v s' | .ok _ => False | .error e => E e s') { s with heap := h, toks := tk } := by
    intro h tk c vb g it hs e
    refine codeAny_builtin F.entry_min_loop ?_
    rw [Around.under_plainId F.plain_min_loop _]
    show wpAny _ A.in1 (seqItems? (.ref S) >>= _) _ _ _
    refine wpAny_bind (wpAny_seqItems hs rfl ?_)
    show wpAny _ A.in1 (tryCatch (pyNext (.ref I)) _ >>= _) _ _ _
    refine wpAny_bind (wpAny_tryCatch (wpAny_pyNext_list_end hh it ⟨_, g _ _ hl, rfl, n, rfl⟩ rfl fun h' k' => ?_))
    have hs' := k' S _ (Ne.symm IS) hs
    show wpAny _ A.in1 (updateSeq S (fun _ => #[]) >>= _) _ _ _
    refine wpAny_bind ?_
    refine wpAny_updateSeq hs' rfl (wpAny_bind (wpAny_letGo (wpAny_pure ?_)))
    rw [e]
    exact hQ _ tk (old g fun b o q1 q2 z => (Heap.get?_update_other _ _ (Ne.symm q2)).trans (k' b o q1 z))
  -- the second turn
  have second : ∀ (h : Heap) (tk c : Nat), Grown s.heap h → h.IsListIter I l 1 → h.get? S = some ⟨.type "list", none, .seq #[v0, v0] c, #[]⟩ →
      codeAny (model P0 w) A (.builtin "min.loop" ⟨[.ref I, .none, .ref S], []⟩) (fun r s' => match r with | .ok (.ret v) => Q v s' | .ok _ => False | .error e => E e s') { s with heap := h, toks := tk } := by
    intro h tk c g it hs
    refine codeAny_builtin F.entry_min_loop ?_
    rw [Around.under_plainId F.plain_min_loop _]
    show wpAny _ A.in1 (seqItems? (.ref S) >>= _) _ _ _
    refine wpAny_bind (wpAny_seqItems hs rfl ?_)
    show wpAny _ A.in1 (tryCatch (pyNext (.ref I)) _ >>= _) _ _ _
    refine wpAny_bind (wpAny_tryCatch (wpAny_pyNext_list_item it ⟨_, g _ _ hl, rfl, n, rfl⟩ (x := v1) rfl fun h' it' hs1 => ?_))
    have hs' := hs1.extBut S _ (Ne.symm IS) hs
    have g' : Grown s.heap h' := old g fun b o q1 q2 z => hs1.extBut b o q1 z
    show wpAny _ A.in1 (tryCatch (holding [v1, v1] (richCompare .Lt v1 v0 >>= _)) _ >>= _) _ _ _
    refine wpAny_bind (wpAny_tryCatch (wpAny_holding (wpAny_bind (hc _ _ _ g' ?_))))
    refine wpAny_bind (wpAny_holding (wpAny_truthy_bool ?_))
    refine wpAny_bind (wpAny_letGo (wpAny_pure ?_))
    cases hbb : bb with
    | true =>
      simp only [if_true]
      refine wpAny_bind ?_
      refine wpAny_updateSeq hs' rfl (wpAny_bind (wpAny_letGo ?_))
      rw [hname]
      refine wpAny_pure ⟨plainId_quiet F.plain_min_loop _, last _ tk _ v1 (old g' fun b o q1 q2 z => (Heap.get?_update_other _ _ (Ne.symm q2)).trans z) (it'.at fun o e => (Heap.get?_update_other _ _ (Ne.symm IS)).trans e) (Heap.get?_update_self _ hs' rfl) (by rw [hbb]; rfl)⟩
    | false =>
      simp only [Bool.false_eq_true, if_false]
      refine wpAny_bind (wpAny_letGo ?_)
      rw [hname]
      exact wpAny_pure ⟨plainId_quiet F.plain_min_loop _, last h' tk c v0 g' it' hs' (by rw [hbb]; rfl)⟩
  -- the first turn
  refine wpAny_pure ⟨plainId_quiet F.plain_min_loop _, ?_⟩
  refine codeAny_builtin F.entry_min_loop ?_
  rw [Around.under_plainId F.plain_min_loop _]
  show wpAny _ A.in1 (seqItems? (.ref S) >>= _) _ _ _
  refine wpAny_bind (wpAny_seqItems hs2 rfl ?_)
  show wpAny _ A.in1 (tryCatch (pyNext (.ref I)) _ >>= _) _ _ _
  refine wpAny_bind (wpAny_tryCatch (wpAny_pyNext_list_item it2 hl2 (x := v0) rfl fun h' it' hs1 => ?_))
  have hs' := hs1.extBut S _ (Ne.symm IS) hs2
  have g' : Grown s.heap h' := old g12 fun b o q1 q2 z => hs1.extBut b o q1 z
  show wpAny _ A.in1 (updateSeq S (fun _ => #[v0, v0]) >>= _) _ _ _
  refine wpAny_bind ?_
  refine wpAny_updateSeq hs' rfl ?_
  rw [hname]
  exact wpAny_pure ⟨plainId_quiet F.plain_min_loop _, second _ _ _ (old g' fun b o q1 q2 z => (Heap.get?_update_other _ _ (Ne.symm q2)).trans z) (it'.at fun o e => (Heap.get?_update_other _ _ (Ne.symm IS)).trans e) (Heap.get?_update_self _ hs' rfl)⟩
theorem cal_min2 {c : Cx} (hu : c.un + 64 < cLine) {xs ys : List Str} : Cal c (.builtin "min") [.list [strsD xs, strsD ys]] (strsD (if cmpD ltS (decide (ys.length < xs.length)) ys xs then ys else xs)) := by
  intro A D s vs ok hs r Q E k
  cases r with
  | cons r rs =>
    cases rs
    cases r with
    | list da o ra =>
      rename_i l vs n
      obtain ⟨vs⟩ := vs
      cases ra with
      | cons r0 ra => cases ra with
        | cons r1 ra =>
          cases ra
          obtain ⟨a0, u0, n0, rfl, o0, s0⟩ := rd_strs r0
          obtain ⟨a1, u1, n1, rfl, o1, s1⟩ := rd_strs r1
          refine mono_of (call_min2 (bb := cmpD ltS (decide (ys.length < xs.length)) ys xs) ok.h o (fun s' Q' E' g q => ?_) fun h' tk' g mo => ?_)
          · exact rc_lt_list (g _ _ o1) (g _ _ o0) s1 s0 (Nat.lt_of_le_of_lt (Nat.le_trans (Nat.add_le_add_right ok.u 1) (Nat.add_le_add_left (by decide) _)) hu) q
          · refine k _ h' tk' D (Aft.of_grown g mo) ?_
            have a : Aft D s.heap 0 D h' 0 := Aft.of_grown g
            cases cmpD ltS (decide (ys.length < xs.length)) ys xs with
            | true => exact a.rd r1
            | false => exact a.rd r0

theorem call_max2 {w : World} {A : Around} (hh : A.handled = none) {s : Shared} {l : Addr} {v0 v1 : Value} {bb : Bool} {n : Nat} {Q E : Value → Shared → Prop} (hl : s.heap.get? l = some ⟨.type "list", none, .seq #[v0, v1] n, #[]⟩)
    (hc : ∀ (s' : Shared) (Q E : Value → Shared → Prop), Grown s.heap s'.heap → Q (.bool bb) s' → wpAny (model P0 w) A.in1 (richCompare .Gt v1 v0) Q E s')
    (hQ : ∀ h' tk', Grown s.heap h' → Q (if bb then v1 else v0) { s with heap := h', toks := tk' }) : wpAny (model P0 w) A (call (.builtin "max") [.ref l]) Q E s := by
  have hname : (toString "max" ++ toString ".loop" : String) = "max.loop" := by decide
  refine call_function_tree F.kind_max F.plain_max F.entry_max (F.args_max1 _) ?_
  show wpAny _ A.in1 (Builtin.Builtins.bindParams "max" ["key", "default"] 0 ⟨[], []⟩ >>= _) _ _ s
  refine wpAny_bind (wpAny_of_eq (show Builtin.Builtins.bindParams "max" ["key", "default"] 0 ⟨[], []⟩ = pure [none, none] from rfl) ?_)
  refine wpAny_bind (wpAny_pure ?_)
  have isl : s.heap.IsList l #[v0, v1] := ⟨_, hl, rfl, n, rfl⟩
  have hlt : l < s.heap.objs.size := Heap.lt_size hl
  refine wpAny_bind (wpAny_pyIter_list isl ?_)
  generalize hI : s.heap.objs.size = I
  have frI : s.heap.get? I = none := hI ▸ size_fresh _
  have g1 : Grown s.heap (s.heap.push { cls := .type "list_iterator", data := .fields #[.ref l, .int 0 0] }) := fun b o e => Heap.get?_push_of_some _ e
  have it1 : (s.heap.push { cls := .type "list_iterator", data := .fields #[.ref l, .int 0 0] }).IsListIter I l 0 := ⟨_, by rw [← hI]; exact Heap.get?_push_size _ rfl, rfl, rfl⟩
  generalize s.heap.push { cls := .type "list_iterator", data := .fields #[.ref l, .int 0 0] } = h1 at g1 it1
  refine wpAny_bind (wpAny_newObj_type ?_)
  generalize hS : h1.objs.size = S
  have frS1 : h1.get? S = none := hS ▸ size_fresh _
  have frS : s.heap.get? S = none := g1.none frS1
  have IS : I ≠ S := fun e => by obtain ⟨o, q, _⟩ := it1; rw [e, frS1] at q; cases q
  have g2 : Grown h1 (h1.push { cls := .type "list", data := .seq ([] : List Value).toArray }) := fun b o e => Heap.get?_push_of_some _ e
  have hs2 : (h1.push { cls := .type "list", data := .seq ([] : List Value).toArray }).get? S = some ⟨.type "list", none, .seq #[] 0, #[]⟩ := by rw [← hS]; exact Heap.get?_push_size _ rfl
  have it2 := it1.at (h' := h1.push { cls := .type "list", data := .seq ([] : List Value).toArray }) fun o e => g2 _ _ e
  have g12 := g1.trans g2
  generalize h1.push { cls := .type "list", data := .seq ([] : List Value).toArray } = h2 at hs2 it2 g12
  rw [hname]
  have hl2 : h2.IsList l #[v0, v1] := ⟨_, g12 _ _ hl, rfl, n, rfl⟩
  have lI : l ≠ I := by rw [← hI]; exact Nat.ne_of_lt hlt
  have lS : l ≠ S := fun e => by rw [← e, hl] at frS; cases frS
  have old : ∀ {h h' : Heap}, Grown s.heap h → (∀ b o, b ≠ I → b ≠ S → h.get? b = some o → h'.get? b = some o) → Grown s.heap h' := fun g k b o e => k b o (fun q => by rw [q, frI] at e; cases e) (fun q => by rw [q, frS] at e; cases e) (g b o e)
  -- the last turn
  have last : ∀ (h : Heap) (tk c : Nat) (vb : Value), Grown s.heap h → h.IsListIter I l 2 → h.get? S = some ⟨.type "list", none, .seq #[vb, vb] c, #[]⟩ → vb = (if bb then v1 else v0) →
      codeAny (model P0 w) A (.builtin "max.loop" ⟨[.ref I, .none, .ref S], []⟩) (fun r s' => match r with | .ok (.ret v) => Q v s' | .ok _ => False | .error e => E e s') { s with heap := h, toks := tk } := by
    intro h tk c vb g it hs e
    refine codeAny_builtin F.entry_max_loop ?_
    rw [Around.under_plainId F.plain_max_loop _]
    show wpAny _ A.in1 (seqItems? (.ref S) >>= _) _ _ _
    refine wpAny_bind (wpAny_seqItems hs rfl ?_)
    show wpAny _ A.in1 (tryCatch (pyNext (.ref I)) _ >>= _) _ _ _
    refine wpAny_bind (wpAny_tryCatch (wpAny_pyNext_list_end hh it ⟨_, g _ _ hl, rfl, n, rfl⟩ rfl fun h' k' => ?_))
    have hs' := k' S _ (Ne.symm IS) hs
    show wpAny _ A.in1 (updateSeq S (fun _ => #[]) >>= _) _ _ _
    refine wpAny_bind ?_
    refine wpAny_updateSeq hs' rfl (wpAny_bind (wpAny_letGo (wpAny_pure ?_)))
    rw [e]
    exact hQ _ tk (old g fun b o q1 q2 z => (Heap.get?_update_other _ _ (Ne.symm q2)).trans (k' b o q1 z))
  -- the second turn
  have second : ∀ (h : Heap) (tk c : Nat), Grown s.heap h → h.IsListIter I l 1 → h.get? S = some ⟨.type "list", none, .seq #[v0, v0] c, #[]⟩ →
      codeAny (model P0 w) A (.builtin "max.loop" ⟨[.ref I, .none, .ref S], []⟩) (fun r s' => match r with | .ok (.ret v) => Q v s' | .ok _ => False | .error e => E e s') { s with heap := h, toks := tk } := by
    intro h tk c g it hs
    refine codeAny_builtin F.entry_max_loop ?_
    rw [Around.under_plainId F.plain_max_loop _]
    show wpAny _ A.in1 (seqItems? (.ref S) >>= _) _ _ _
    refine wpAny_bind (wpAny_seqItems hs rfl ?_)
    show wpAny _ A.in1 (tryCatch (pyNext (.ref I)) _ >>= _) _ _ _
    refine wpAny_bind (wpAny_tryCatch (wpAny_pyNext_list_item it ⟨_, g _ _ hl, rfl, n, rfl⟩ (x := v1) rfl fun h' it' hs1 => ?_))
    have hs' := hs1.extBut S _ (Ne.symm IS) hs
    have g' : Grown s.heap h' := old g fun b o q1 q2 z => hs1.extBut b o q1 z
    show wpAny _ A.in1 (tryCatch (holding [v1, v1] (richCompare .Gt v1 v0 >>= _)) _ >>= _) _ _ _
    refine wpAny_bind (wpAny_tryCatch (wpAny_holding (wpAny_bind (hc _ _ _ g' ?_))))
    refine wpAny_bind (wpAny_holding (wpAny_truthy_bool ?_))
    refine wpAny_bind (wpAny_letGo (wpAny_pure ?_))
    cases hbb : bb with
    | true =>
      simp only [if_true]
      refine wpAny_bind ?_
      refine wpAny_updateSeq hs' rfl (wpAny_bind (wpAny_letGo ?_))
      rw [hname]
      refine wpAny_pure ⟨plainId_quiet F.plain_max_loop _, last _ tk _ v1 (old g' fun b o q1 q2 z => (Heap.get?_update_other _ _ (Ne.symm q2)).trans z) (it'.at fun o e => (Heap.get?_update_other _ _ (Ne.symm IS)).trans e) (Heap.get?_update_self _ hs' rfl) (by rw [hbb]; rfl)⟩
    | false =>
      simp only [Bool.false_eq_true, if_false]
      refine wpAny_bind (wpAny_letGo ?_)
      rw [hname]
      exact wpAny_pure ⟨plainId_quiet F.plain_max_loop _, last h' tk c v0 g' it' hs' (by rw [hbb]; rfl)⟩
  -- the first turn
  refine wpAny_pure ⟨plainId_quiet F.plain_max_loop _, ?_⟩
  refine codeAny_builtin F.entry_max_loop ?_
  rw [Around.under_plainId F.plain_max_loop _]
  show wpAny _ A.in1 (seqItems? (.ref S) >>= _) _ _ _
  refine wpAny_bind (wpAny_seqItems hs2 rfl ?_)
  show wpAny _ A.in1 (tryCatch (pyNext (.ref I)) _ >>= _) _ _ _
  refine wpAny_bind (wpAny_tryCatch (wpAny_pyNext_list_item it2 hl2 (x := v0) rfl fun h' it' hs1 => ?_))
  have hs' := hs1.extBut S _ (Ne.symm IS) hs2
  have g' : Grown s.heap h' := old g12 fun b o q1 q2 z => hs1.extBut b o q1 z
  show wpAny _ A.in1 (updateSeq S (fun _ => #[v0, v0]) >>= _) _ _ _
  refine wpAny_bind ?_
  refine wpAny_updateSeq hs' rfl ?_
  rw [hname]
  exact wpAny_pure ⟨plainId_quiet F.plain_max_loop _, second _ _ _ (old g' fun b o q1 q2 z => (Heap.get?_update_other _ _ (Ne.symm q2)).trans z) (it'.at fun o e => (Heap.get?_update_other _ _ (Ne.symm IS)).trans e) (Heap.get?_update_self _ hs' rfl)⟩
theorem cal_max2 {c : Cx} (hu : c.un + 64 < cLine) {xs ys : List Str} : Cal c (.builtin "max") [.list [strsD xs, strsD ys]] (strsD (if cmpD gtS (decide (ys.length > xs.length)) ys xs then ys else xs)) := by
  intro A D s vs ok hs r Q E k
  cases r with
  | cons r rs =>
    cases rs
    cases r with
    | list da o ra =>
      rename_i l vs n
      obtain ⟨vs⟩ := vs
      cases ra with
      | cons r0 ra => cases ra with
        | cons r1 ra =>
          cases ra
          obtain ⟨a0, u0, n0, rfl, o0, s0⟩ := rd_strs r0
          obtain ⟨a1, u1, n1, rfl, o1, s1⟩ := rd_strs r1
          refine mono_of (call_max2 (bb := cmpD gtS (decide (ys.length > xs.length)) ys xs) ok.h o (fun s' Q' E' g q => ?_) fun h' tk' g mo => ?_)
          · exact rc_gt_list (g _ _ o1) (g _ _ o0) s1 s0 (Nat.lt_of_le_of_lt (Nat.le_trans (Nat.add_le_add_right ok.u 1) (Nat.add_le_add_left (by decide) _)) hu) q
          · refine k _ h' tk' D (Aft.of_grown g mo) ?_
            have a : Aft D s.heap 0 D h' 0 := Aft.of_grown g
            cases cmpD gtS (decide (ys.length > xs.length)) ys xs with
            | true => exact a.rd r1
            | false => exact a.rd r0
end Mine
end

-- C6
section
open PySem PySem.W PyProof.Rows PySem.W.X PySem.Calls PySem.Spec PySem.SeqAt
set_option Elab.async false
set_option maxRecDepth 100000
set_option maxHeartbeats 0
set_option linter.unusedVariables false
namespace Mine
theorem filled9 : PySem.Challenge.rw_in0208_01 = PySem.Challenge.rw_in0208_01 ∧ hd.heap_39 = hd.heap_39 := by k_fill; exact ⟨rfl, rfl⟩
-- tb_start: the sides of «cal_def»
local macro_rules | `(tactic| tb_start) => `(tactic| ((case ho => k_dflt k_is); (case hcd => k_dflt k_is); (case hbind => first | exact bt1 fun _ => rfl | exact bt2 fun _ _ => rfl | exact bt3 fun _ _ _ => rfl | exact bt4 fun _ _ _ _ => rfl | exact bt0 rfl); (case hkind => exact fun _ => rfl); (case hco => exact rfl); (case hgen => exact rfl); (case hk => exact rfl)))
theorem wr_cell {c : Cx} {x : Str} {k : Addr} (h1 : c.env.kindOf x = some .cell) (h2 : c.env.scope.kind = .function) (h3 : c.env.cells.lookup x = some k) : Wr c (Wf c.env) x := .inr ⟨h1, h2, k, h3, .inr ⟨x, h3⟩⟩
theorem tru_tuple {c : Cx} {xs : List PD} (h : xs.length < 2 ^ 63) : Tru c (.tuple xs) (!xs.isEmpty) := by
  intro A D s v _ r Q E k
  cases r with
  | tuple da o r =>
    rename_i a vs n
    have e : vs.size = xs.length := by have := r.length; simpa using this
    refine mono_of (PyProof.Rows.truthy_tuple ⟨_, o, rfl, n, rfl⟩ (by rw [e]; omega) fun mo => ?_)
    have z : vs.isEmpty = xs.isEmpty := by
      cases xs with
      | nil => simp only [List.length_nil] at e; simp [Array.isEmpty, e]
      | cons x xs => simp only [List.length_cons] at e; simp [Array.isEmpty, e]
    rw [z]
    exact k s.heap _ D (Aft.refl _ _ mo)
def spl (x : Str) : List Str := (Txt.split x "/").filter fun c => ((c.length : Int) != 0) && (c != "." && true)
def splD : PD → PD
  | .str x => strsD (Txt.split x "/")
  | d => d
def keepD : PD → Bool
  | .str c => ((c.length : Int) != 0) && (c != "." && true)
  | _ => false
def filD : PD → PD
  | .list xs => .list ((xs.filter keepD).map fun d => d)
  | d => d
theorem filD_strs (xs : List Str) : filD (strsD xs) = strsD (xs.filter fun c => ((c.length : Int) != 0) && (c != "." && true)) := by
  unfold filD strsD
  simp only [List.map_id']
  congr 1
  induction xs with
  | nil => rfl
  | cons x xs ih =>
    rw [List.map_cons, List.filter_cons, List.filter_cons]
    have : keepD (.str x) = (((x.length : Int) != 0) && (x != "." && true)) := rfl
    rw [this]
    split
    · rw [List.map_cons, ih]
    · exact ih
theorem pick_upto {xs : List Str} {b : Nat} (h : b ≤ xs.length) : pick (xs.map PyData.str) none (some (b : Int)) none = (xs.take b).map .str := by
  unfold pick
  have e : sliceBounds none (some (b : Int)) none (xs.map PyData.str).length = (((0 : Nat) : Int), (b : Int), 1) := by
    simp only [sliceBounds, Option.getD_none, List.length_map]
    have h2 : ¬ ((b : Int) < 0) := by omega
    simp only [h2, if_false, show (1 : Int) > 0 by decide, if_true]
    congr 1
    congr 1; omega
  rw [e]
  simp only [sliceRange_one]
  have z : (fun i : Nat => (xs.map PyData.str)[i]?) = fun i => ((xs.map PyData.str).toArray)[i]? := by funext i; simp
  rw [z, pick_run]
  simp
theorem commonpath_x {c : Cx} (hr : Rm c 8) (x y : Str) (s1 s2 : List Str) (k : Nat)
    (hx : x.length ≤ 1000) (hy : y.length ≤ 1000) (hx' : (Builtin.Str.partsBetween x (Builtin.Str.occurrences x "/" 0 x.length (x.length + 1)) 1).length ≤ 1000) (hy' : (Builtin.Str.partsBetween y (Builtin.Str.occurrences y "/" 0 y.length (y.length + 1)) 1).length ≤ 1000)
    (sx : (Txt.split x "/").all (·.length ≤ 1000) = true) (sy : (Txt.split y "/").all (·.length ≤ 1000) = true) (lx : (Txt.split x "/").length ≤ 1000) (ly : (Txt.split y "/").length ≤ 1000)
    (stx : Txt.startswith x "/" = true) (sty : Txt.startswith y "/" = true)
    (h1 : (if cmpD ltS (decide ((spl y).length < (spl x).length)) (spl y) (spl x) then spl y else spl x) = s1) (h2 : (if cmpD gtS (decide ((spl y).length > (spl x).length)) (spl y) (spl x) then spl y else spl x) = s2)
    (hk : k ≤ s1.length) (heq : ∀ i, i < k → s1[i]? = s2[i]?) (hstop : k = s1.length ∨ ∃ a b, s1[k]? = some a ∧ s2[k]? = some b ∧ (a != b) = true) (hj : ((s1.take k).map (·.length)).sum + (s1.take k).length * 1 ≤ 1000) (hl1 : s1.length ≤ 1000) (hl2 : s2.length ≤ 1000) (hjl : (Txt.join "/" (s1.take k)).length ≤ 1000) :
    Cal c (.ref 279) [.list [.str x, .str y]] (.str ("/" ++ Txt.join "/" (s1.take k))) := by
  have sl : ∀ n : Nat, n ≤ 1000 → n ≤ sizeLine := fun n h => Nat.le_trans h (by decide)
  refine' cal_def (xs := ["paths"]) ?ho ?hcd hr.lim rfl ?hbind ?hkind ?hco ?hgen ?hk ?_; tb_start
  intro L base
  refine ss_assign (.inl ⟨rfl, rfl⟩) (evs (ev_tuple_map (hr.down.less (by decide)) (ev_boot ⟨rfl, rfl, rfl⟩ rfl (by k_is) (by boot_by_name) (by decide) rfl) (ev_boot ⟨rfl, rfl, rfl⟩ rfl (by k_is) (by boot_by_name) (by decide) rfl) (ev_top ⟨rfl, rfl, rfl⟩ rfl (by k_is) rfl) (ev_name rfl rfl rfl rfl) rfl rfl rfl rfl)) rfl ?_
  refine ss_if (b := false) (evts (et_not (b := true) (et_plain (ev_name rfl rfl rfl rfl) (tru_tuple (xs := [.str x, .str y]) (by show 2 < 2 ^ 63; decide)) rfl))) (fun e => by cases e) fun _ => ?_
  refine ss_nil ?_
  refine ss_if (b := false) (evts (et_isbytes (ev_boot ⟨rfl, rfl, rfl⟩ rfl (by k_is) (by boot_by_name) (by decide) rfl) (ev_boot ⟨rfl, rfl, rfl⟩ rfl (by k_is) (by boot_by_name) (by decide) rfl) (ev_item (ev_name rfl rfl rfl rfl) ev_int (fun _ _ => rfl) (gi_tuple (i := 0) (d := .str x) rfl (by decide))) rfl rfl rfl rfl)) (fun e => by cases e) fun _ => ?_
  refine ss_assign (wr_cell rfl rfl rfl) (evs ev_str) rfl ?_
  refine ss_assign (wr_cell rfl rfl rfl) (evs ev_str) rfl ?_
  refine ss_nil ?_
  refine ss_try ?_
  refine ss_assign_comp (ds := [.str x, .str y]) (cl := [("sep", L + 1)]) splD (fun _ => true) (.inl ⟨rfl, rfl⟩) ⟨rfl, by decide, rfl, by decide, rfl, ⟨rfl, .inl rfl, rfl, trivial⟩⟩ (ei_tuple (ev_name rfl rfl rfl rfl)) (sl 2 (by decide)) (fun d C _ => ets_nil) ?_ (fun _ => rfl) rfl ?_
  · intro d C hd _
    simp only [List.mem_cons, List.not_mem_nil, or_false] at hd
    rcases hd with rfl | rfl
    · exact ev_meth (ev_name rfl rfl rfl rfl) gm_split (es_cons (ev_name rfl rfl rfl rfl) es_nil rfl) (cal_split (by decide) (sl _ hx) (sl _ hx')) rfl rfl rfl
    · exact ev_meth (ev_name rfl rfl rfl rfl) gm_split (es_cons (ev_name rfl rfl rfl rfl) es_nil rfl) (cal_split (by decide) (sl _ hy) (sl _ hy')) rfl rfl rfl
  refine ss_try ?_
  refine ss_unpack_set (ds := [.str x, .str y]) (cl := [("sep", L + 1)]) (Nat.succ_pos _) (.inl ⟨rfl, rfl⟩) ⟨rfl, by decide, rfl, by decide, rfl, ⟨rfl, .inl rfl, rfl, trivial⟩⟩ (ei_tuple (ev_name rfl rfl rfl rfl)) ?_ (fun _ => rfl) rfl rfl rfl ?_
  · intro d C hd
    simp only [List.mem_cons, List.not_mem_nil, or_false] at hd
    rcases hd with rfl | rfl
    · exact (ev_meth (ev_name rfl rfl rfl rfl) gm_startswith (es_cons (ev_name rfl rfl rfl rfl) es_nil rfl) cal_startswith rfl rfl rfl).cast (by rw [stx])
    · exact (ev_meth (ev_name rfl rfl rfl rfl) gm_startswith (es_cons (ev_name rfl rfl rfl rfl) es_nil rfl) cal_startswith rfl rfl rfl).cast (by rw [sty])
  refine ss_nil ?_
  have shortx : ∀ z ∈ Txt.split x "/", z.length ≤ 1000 := fun z hz => by simpa using List.all_eq_true.mp sx z hz
  have shorty : ∀ z ∈ Txt.split y "/", z.length ≤ 1000 := fun z hz => by simpa using List.all_eq_true.mp sy z hz
  refine ss_assign_comp (ds := [strsD (Txt.split x "/"), strsD (Txt.split y "/")]) (cl := [("curdir", L + 2)]) filD (fun _ => true) (.inl ⟨rfl, rfl⟩) ⟨rfl, by decide, rfl, by decide, rfl, ⟨rfl, .inl rfl, rfl, trivial⟩⟩ (ei_list (ev_name rfl rfl rfl rfl)) (sl 2 (by decide)) (fun d C _ => ets_nil) ?_ (fun _ => rfl) rfl ?_
  · intro d C hd _
    obtain ⟨zs, rfl, hzs, hz⟩ : ∃ zs : List Str, d = strsD zs ∧ zs.length ≤ 1000 ∧ ∀ z ∈ zs, z.length ≤ 1000 := by
      simp only [List.mem_cons, List.not_mem_nil, or_false] at hd
      rcases hd with e | e
      · exact ⟨_, e, lx, shortx⟩
      · exact ⟨_, e, ly, shorty⟩
    refine ev_comp (cl := [("curdir", L + 2)]) (ds := zs.map .str) (fun d => d) keepD ⟨rfl, by decide, rfl, by decide, rfl, ⟨rfl, .inl rfl, rfl, trivial⟩⟩ (ei_list (ev_name rfl rfl rfl rfl)) (by rw [List.length_map]; exact sl _ hzs) ?_ ?_ (fun _ => rfl)
    · intro d' C' hd'
      obtain ⟨z, hz', rfl⟩ := List.mem_map.mp hd'
      have := hz z hz'
      exact ets_one (et_bool (eb_and (et_plain (ev_name rfl rfl rfl rfl) (tru_str (by omega)) rfl) fun _ => eb_and (et_cmp (ev_name rfl rfl rfl rfl) (ev_name rfl rfl rfl rfl) op_ne_str rfl) fun _ => eb_and_nil))
    · intro d' C' hd' _
      exact ev_name rfl rfl rfl rfl
  have cast : ([strsD (Txt.split x "/"), strsD (Txt.split y "/")].filter (fun _ => true)).map filD = [strsD (spl x), strsD (spl y)] := by
    show [filD _, filD _] = _
    rw [filD_strs, filD_strs]
    rfl
  rw [cast]
  have hu : c.un + 3 + 64 < cLine := by have := hr.2; exact Nat.lt_of_le_of_lt (by omega : c.un + 3 + 64 ≤ 4100) (by decide)
  refine ss_assign (.inl ⟨rfl, rfl⟩) (evs (ev_call_builtin (ev_boot ⟨rfl, rfl, rfl⟩ rfl (by k_is) (by boot_by_name) (by decide) rfl) (es_cons (ev_name rfl rfl rfl rfl) es_nil rfl) (cal_min2 hu) rfl rfl)) rfl ?_
  rw [h1]
  refine ss_assign (.inl ⟨rfl, rfl⟩) (evs (ev_call_builtin (ev_boot ⟨rfl, rfl, rfl⟩ rfl (by k_is) (by boot_by_name) (by decide) rfl) (es_cons (ev_name rfl rfl rfl rfl) es_nil rfl) (cal_max2 hu) rfl rfl)) rfl ?_
  rw [h2]
  refine ss_assign (.inl ⟨rfl, rfl⟩) (evs (ev_name rfl rfl rfl rfl)) rfl ?_
  refine ss_for (ds := enumD (s1.map .str)) (ei_enum_list (ev_boot ⟨rfl, rfl, rfl⟩ rfl (by k_is) (by boot_by_name) (by decide) rfl) (ev_name rfl rfl rfl rfl) rfl)
    (fun n ρ' => n ≤ k ∧ ρ' "sep" = some (.dat (.str "/")) ∧ ρ' "isabs" = some (.dat (.bool true)) ∧ ρ' "s1" = some (.dat (strsD s1)) ∧ ρ' "s2" = some (.dat (strsD s2)) ∧ ρ' "common" = some (.dat (strsD s1))) ⟨Nat.zero_le _, rfl, rfl, rfl, rfl, rfl⟩ ?_ ?_ (fun _ => rfl)
  · rintro i d ρ' hd ⟨hik, e1, e2, e3, e4, e5⟩
    obtain ⟨d, hd₀, rfl⟩ := enumD_get hd
    rw [List.getElem?_map] at hd₀
    obtain ⟨z, hz, rfl⟩ := Option.map_eq_some_iff.mp hd₀
    have hil : i < s1.length := (List.getElem?_eq_some_iff.mp hz).1
    refine ⟨_, asg_tuple (asgs_cons (asg_name (.inl ⟨rfl, rfl⟩)) (asgs_cons (asg_name (.inl ⟨rfl, rfl⟩)) asgs_nil rfl) rfl) rfl rfl, ?_⟩
    obtain ⟨u, hu2, hne⟩ : ∃ u, s2[i]? = some u ∧ ((z != u) = decide (i = k)) := by
      by_cases q : i = k
      · subst q
        rcases hstop with hs | ⟨a, b, ha, hb, hab⟩
        · omega
        · rw [hz] at ha
          cases ha
          exact ⟨b, hb, by rw [hab]; simp⟩
      · refine ⟨z, by rw [← heq i (by omega)]; exact hz, by simp [q]⟩
    refine ss_if (b := z != u) (evts (et_cmp (ev_name rfl rfl rfl rfl) (ev_item (ev_name rfl rfl rfl (alls_of (d := strsD s2) e4)) (ev_name rfl rfl rfl rfl) (fun _ _ => rfl) (gi_list (i := i) (d := .str u) (by rw [List.getElem?_map, hu2]; rfl) (by omega))) op_ne_str rfl)) ?_ ?_
    · intro hb
      have q : i = k := by rw [hb] at hne; exact of_decide_eq_true hne.symm
      subst q
      refine ss_assign (.inl ⟨rfl, rfl⟩) (evs (ev_slice_list (xs := s1.map .str) (ys := (s1.take i).map .str) (lo := none) (hi := some (i : Int)) (stp := none) (ev_name rfl rfl rfl (dats_of (d := strsD s1) e3)) ep_none (ep_some (ev_name rfl rfl rfl rfl)) ep_none (by decide) (by rw [List.length_map]; exact sl _ hl1) (pick_upto (Nat.le_of_lt hil)))) rfl ?_
      refine ss_break ?_
      refine ss_assign (.inl ⟨rfl, rfl⟩) (evs (ev_if (b := true) (d := .str "/") (et_plain (ev_name rfl rfl rfl (dats_of (d := .bool true) e2)) tru_bool rfl) (fun _ => ev_name rfl rfl rfl (dats_of (d := .str "/") e1)) (fun e => by cases e))) rfl ?_
      exact ss_return (evs (ev_bin (ev_name rfl rfl rfl rfl) (ev_meth (ev_name rfl rfl rfl (dats_of (d := .str "/") e1)) gm_join (es_cons (ev_name rfl rfl rfl rfl) es_nil rfl) (cal_join (ys := s1.take i) (Nat.le_trans hj (by decide))) rfl rfl rfl) (op_add_str (Nat.le_trans (Nat.add_le_add_left hjl _) (by decide))))) rfl
    · intro hb
      have q : i ≠ k := fun q => by rw [hb] at hne; exact absurd hne.symm (by simp [q])
      exact ss_nil (ss_nil ⟨by omega, e1, e2, e3, e4, e5⟩)
  · rintro ρ' ⟨hik, e1, e2, e3, e4, e5⟩
    rw [enumD_len, List.length_map] at hik
    have hkl : k = s1.length := by omega
    subst hkl
    rw [List.take_length] at *
    refine ss_nil ?_
    refine ss_assign (.inl ⟨rfl, rfl⟩) (evs (ev_if (b := true) (d := .str "/") (et_plain (ev_name rfl rfl rfl (dats_of (d := .bool true) e2)) tru_bool rfl) (fun _ => ev_name rfl rfl rfl (dats_of (d := .str "/") e1)) (fun e => by cases e))) rfl ?_
    exact ss_return (evs (ev_bin (ev_name rfl rfl rfl rfl) (ev_meth (ev_name rfl rfl rfl (dats_of (d := .str "/") e1)) gm_join (es_cons (ev_name rfl rfl rfl (dats_of (d := strsD s1) e5)) es_nil rfl) (cal_join (ys := s1) (Nat.le_trans hj (by decide))) rfl rfl rfl) (op_add_str (Nat.le_trans (Nat.add_le_add_left hjl _) (by decide))))) rfl
end Mine
end

-- C7
section
open PySem PySem.W PyProof.Rows PySem.W.X PySem.Calls PySem.Spec PySem.SeqAt
set_option Elab.async false
set_option maxRecDepth 100000
set_option maxHeartbeats 0
set_option linter.unusedVariables false
namespace Mine
def cS1 (x y : Str) : List Str := if cmpD ltS (decide ((spl y).length < (spl x).length)) (spl y) (spl x) then spl y else spl x
def cS2 (x y : Str) : List Str := if cmpD gtS (decide ((spl y).length > (spl x).length)) (spl y) (spl x) then spl y else spl x
def cK (x y : Str) : Nat := ((List.range (cS1 x y).length).find? fun i => (cS1 x y)[i]? != (cS2 x y)[i]?).getD (cS1 x y).length
def cR (x y : Str) : Str := "/" ++ Txt.join "/" ((cS1 x y).take (cK x y))
def stopB (a b : List Str) (k : Nat) : Bool := k == a.length || match a[k]?, b[k]? with | some u, some v => u != v | _, _ => false
def okPair (x y : Str) : Bool :=
  decide (x.length ≤ 1000) && decide (y.length ≤ 1000) && decide ((Builtin.Str.partsBetween x (Builtin.Str.occurrences x "/" 0 x.length (x.length + 1)) 1).length ≤ 1000) && decide ((Builtin.Str.partsBetween y (Builtin.Str.occurrences y "/" 0 y.length (y.length + 1)) 1).length ≤ 1000) &&
  (Txt.split x "/").all (·.length ≤ 1000) && (Txt.split y "/").all (·.length ≤ 1000) && decide ((Txt.split x "/").length ≤ 1000) && decide ((Txt.split y "/").length ≤ 1000) && Txt.startswith x "/" && Txt.startswith y "/" &&
  decide (cK x y ≤ (cS1 x y).length) && (List.range (cK x y)).all (fun i => (cS1 x y)[i]? == (cS2 x y)[i]?) && stopB (cS1 x y) (cS2 x y) (cK x y) &&
  decide ((((cS1 x y).take (cK x y)).map (·.length)).sum + ((cS1 x y).take (cK x y)).length * 1 ≤ 1000) && decide ((cS1 x y).length ≤ 1000) && decide ((cS2 x y).length ≤ 1000) && decide ((Txt.join "/" ((cS1 x y).take (cK x y))).length ≤ 1000)
theorem ok_pairs : ∀ x ∈ WAYS, ∀ y ∈ WAYS, okPair x y = true := by decide +kernel
theorem c_commonpath {c : Cx} (hr : Rm c 8) {x y : Str} (hx : x ∈ WAYS) (hy : y ∈ WAYS) : Cal c (.ref 279) [.list [.str x, .str y]] (.str (cR x y)) := by
  have h := ok_pairs x hx y hy
  unfold okPair at h
  simp only [Bool.and_eq_true, decide_eq_true_eq] at h
  obtain ⟨⟨⟨⟨⟨⟨⟨⟨⟨⟨⟨⟨⟨⟨⟨⟨a1, a2⟩, a3⟩, a4⟩, a5⟩, a6⟩, a7⟩, a8⟩, a9⟩, a10⟩, a11⟩, a12⟩, a13⟩, a14⟩, a15⟩, a16⟩, a17⟩ := h
  refine commonpath_x hr x y (cS1 x y) (cS2 x y) (cK x y) a1 a2 a3 a4 a5 a6 a7 a8 a9 a10 rfl rfl a11 (fun i hi => ?_) ?_ a14 a15 a16 a17
  · exact beq_iff_eq.mp (List.all_eq_true.mp a12 i (List.mem_range.mpr hi))
  · unfold stopB at a13
    rw [Bool.or_eq_true] at a13
    rcases a13 with q | q
    · exact .inl (beq_iff_eq.mp q)
    · refine .inr ?_
      split at q
      · rename_i u v e1 e2
        exact ⟨u, v, e1, e2, q⟩
      · cases q
theorem cR_under : ∀ i, (hi : i < 6) → ∀ j, (hj : j < 6) → (cR (WAYS.getD i "") (WAYS.getD j "") == WAYS.getD i "") = under i j := by decide +kernel
end Mine
end

-- C8
section
open PySem PySem.W PyProof.Rows PySem.W.X PySem.Calls PySem.Spec PySem.SeqAt
set_option Elab.async false
set_option maxRecDepth 100000
set_option maxHeartbeats 0
set_option linter.unusedVariables false
namespace Mine
/-- dirname, of a place -/
theorem c_dir {c : Cx} (hr : Rm c 6) : ∀ k, k < 6 → Cal c (.ref 274) [.str (WAYS.getD k "")] (.str (WAYS.getD (par k) ""))
  | 0, _ => c_dirname hr "/" "/" "/" 1 false (by decide +kernel) (by decide +kernel) (by decide) (by decide +kernel) (by decide +kernel) (by decide +kernel) (by decide +kernel) (by decide +kernel)
  | 1, _ => c_dirname hr "/a" "/" "/" 1 false (by decide +kernel) (by decide +kernel) (by decide) (by decide +kernel) (by decide +kernel) (by decide +kernel) (by decide +kernel) (by decide +kernel)
  | 2, _ => c_dirname hr "/a/a" "/a/" "/a" 3 true (by decide +kernel) (by decide +kernel) (by decide) (by decide +kernel) (by decide +kernel) (by decide +kernel) (by decide +kernel) (by decide +kernel)
  | 3, _ => c_dirname hr "/a/ab" "/a/" "/a" 3 true (by decide +kernel) (by decide +kernel) (by decide) (by decide +kernel) (by decide +kernel) (by decide +kernel) (by decide +kernel) (by decide +kernel)
  | 4, _ => c_dirname hr "/ab" "/" "/" 1 false (by decide +kernel) (by decide +kernel) (by decide) (by decide +kernel) (by decide +kernel) (by decide +kernel) (by decide +kernel) (by decide +kernel)
  | 5, _ => c_dirname hr "/ab/b" "/ab/" "/ab" 4 true (by decide +kernel) (by decide +kernel) (by decide) (by decide +kernel) (by decide +kernel) (by decide +kernel) (by decide +kernel) (by decide +kernel)
  | n + 6, h => absurd h (by omega)
/-- the first place that has the name of the place above -/
theorem par_first : ∀ k, k < 6 → WAYS[par k]? = some (WAYS.getD (par k) "") ∧ ∀ i, i < par k → WAYS[i]? ≠ some (WAYS.getD (par k) "") := by decide +kernel
end Mine
end

-- C9
section
open PySem PySem.W PyProof.Rows PySem.W.X PySem.Calls PySem.Spec PySem.SeqAt
set_option Elab.async false
set_option maxRecDepth 100000
set_option maxHeartbeats 0
set_option linter.unusedVariables false
namespace Mine
theorem filled10 : PySem.Challenge.rw_in0208_01 = PySem.Challenge.rw_in0208_01 ∧ hd.heap_39 = hd.heap_39 := by k_fill; exact ⟨rfl, rfl⟩
theorem setitem_call {w : World} {d u : Nat} {s : Shared} {mean : ExcName → Option Value} {mg mb : Str → Option Value} {l : Addr} {vs : Array Value} {n : Nat} {i : Nat} {t : Tok} {v : Value} {Q E : Value → Shared → Prop}
    (X : (hd.heap_39 w.params).In s.heap) (T : Top hd.view_39 LS mean mg mb s.heap) (hr : d < recursionLimit) (hl : s.heap.get? l = some ⟨.type "list", none, .seq vs n, #[]⟩) (hi : i < vs.size) (hf : i < 2 ^ 63)
    (hQ : ∀ h' tk' n', s.toks ≤ tk' → h'.get? l = some ⟨.type "list", none, .seq (vs.setIfInBounds i v) n', #[]⟩ → (∀ b o, b ≠ l → s.heap.get? b = some o → h'.get? b = some o) → Q .none { s with heap := h', toks := tk' }) :
    wpAny (model P0 w) (AG d u) (call (.ref 173) [.ref l, .int i t, v]) Q E s := by
  refine' enterD (binds := [("a", .ref l), ("b", .int i t), ("c", v)]) X T ?ho ?hcd hr ?hbind ?hkind ?_ ?hco ?hgen ?hk
  (case ho => k_dflt k_is); (case hcd => k_dflt k_is); (case hbind => exact BindsTo.of_eq rfl); (case hkind => exact rfl); (case hco => exact rfl); (case hgen => exact rfl); (case hk => exact rfl)
  intro h₁ tk mo x
  have ns := x.toInCall.ns
  have kp := x.toInCall.keep
  have lL : l ≠ s.heap.objs.size := Nat.ne_of_lt (Heap.lt_size hl)
  refine wpAny_execs_cons ?_
  refine wpAny_Assign_Subscript ?_ rfl
  refine wpAny_Name (wpAny_loadName_local rfl rfl ns (v := v) rfl ?_) rfl
  refine wpAny_Name (wpAny_loadName_local rfl rfl ns (v := .ref l) rfl ?_) rfl
  refine wpAny_Name (wpAny_loadName_local rfl rfl ns (v := .int i t) rfl ?_) rfl
  refine setItem_exactI (s := { s with heap := h₁, toks := tk }) (kp _ _ hl) (by omega) (by omega) (by omega) fun h₂ n₂ e₂ o₂ => ?_
  refine wpAny_execs_nil ?_
  rw [Int.toNat_natCast] at e₂
  exact hQ h₂ tk n₂ mo e₂ fun b o q e => (o₂ b q).trans (kp b o e)
theorem RdAll.setArr {D : Ad} {h : Heap} {vs : Array Value} {ds : List PD} (r : RdAll D h vs.toList ds) {i : Nat} {v : Value} {d : PD} (q : Rd D h v d) : RdAll D h (vs.setIfInBounds i v).toList (ds.set i d) := by
  rw [Array.toList_setIfInBounds]
  exact r.set i q
section
variable {c : Cx} {W : Pr} {base : Heap} {ρ : Nm} {P : PF → Nm → Prop}
/-- setitem(x, k, e), on a list of the frame's own -/
theorem ss_setitem {x y : Str} {yp xp cp pos : Pos} {ke e : Expr} {rest : List Stmt} {a : Addr} {xs : List PD} {d : PD} {i : Nat} (hr : Rm c 1) (hk : c.env.scope.kind = .function) (hdb : (x == ("__debug__" : Str)) = false) (hn : (x == ("__classdict__" : Str)) = false) (hx : ρ x = some (.own a xs)) (un : ∀ y ys, ρ y = some (.own a ys) → y = x) (hi : i < xs.length) (hf : i < 2 ^ 63)
    (hs : EvV c (.Name y yp) (.ref 173)) (hK : keepIn (hd.heap_39 c.w.params) (.ref 173) = true) (hke : EvS c ρ ke (.int i)) (he : EvS c ρ e d)
    (h1 : starEach [.Name x xp, ke, e] c.env = (false, eval (.Name x xp) c.env) :: starEach [ke, e] c.env) (h2 : starEach [ke, e] c.env = (false, eval ke c.env) :: starEach [e] c.env) (h3 : starEach [e] c.env = (false, eval e c.env) :: starEach [] c.env)
    (h4 : (backTo cp (starEach [ke, e] c.env)).any (·.1) = false)
    (h : EvSs c W base rest (upd ρ x (.own a (xs.set i d))) P) (hin : interactive c.env = false := by rfl) : EvSs c W base (.Expr (.Call (.Name y yp) [.Name x xp, ke, e] [] cp) pos :: rest) ρ P := by
  intro A D s Q E ok p₀ f k
  refine wpAny_execs_cons ?_
  refine wpAny_Expr_any ?_ hin
  refine Call_ ?_
  have kt₀ : KT c.w s.heap := f.kt.grow f.gr
  refine hs A s _ _ kt₀ ?_
  refine callWith_K kt₀.1 hK ?_ h1 h4
  refine args_cons ?_ h1
  obtain ⟨va, w, _⟩ := f.own_obj hx
  refine name_at va hk hdb hn ?_
  refine args_cons ?_ h2
  refine hke A D s W base ok p₀ f _ _ fun vk h₁ t₁ D₁ a₁ r₁ => ?_
  have f₁ := f.aft a₁
  refine args_cons ?_ h3
  refine he A D₁ { s with heap := h₁, toks := t₁ } W base ok (p₀.aft a₁) f₁ _ _ fun v h₂ t₂ D₂ a₂ r₂ => args_nil ?_
  have f₂ := f₁.aft a₂
  cases r₁
  have kt₂ : KT c.w h₂ := f₂.kt.grow f₂.gr
  refine ⟨kt₂.1, ?_⟩
  obtain ⟨X, mean, mg, mb, T⟩ := kt₂
  obtain ⟨va₂, w₂, vs, n, ho, r⟩ := f₂.own_obj hx
  have sz : vs.size = xs.length := by have := r.length; simpa using this
  refine wpAny_AG (d := c.dp) (u := c.un) ?_ ok.h ok.g ok.d ok.u
  refine setitem_call (s := { s with heap := h₂, toks := t₂ }) X T hr.lim ho (by rw [sz]; exact hi) hf fun h₃ t₃ n₃ mo hn₃ hs₃ => ?_
  obtain ⟨f₃, a₃⟩ := f₂.own_write hx un ho hn₃ (fun b o q e => hs₃ b o q e) (xs' := xs.set i d) (r.setArr r₂)
  have tot : Aft3 W D s.heap s.toks D₂ h₃ t₃ := (Aft.two (a₁.trans a₂)).trans (a₃ _ _ mo)
  exact h A D₂ { s with heap := h₃, toks := t₃ } Q E ok (tot.tk p₀) f₃ fun fl pf ρ' h₄ t₄ D₄ hp a₄ f₄ fr => k fl pf ρ' h₄ t₄ D₄ hp (tot.trans a₄) f₄ fr
end
end Mine
end

-- C10
section
open PySem PySem.W PyProof.Rows PySem.W.X PySem.Calls PySem.Spec PySem.SeqAt
set_option Elab.async false
set_option maxRecDepth 100000
set_option maxHeartbeats 0
set_option linter.unusedVariables false
namespace Mine
theorem filled11 : PySem.Challenge.rw_in0208_01 = PySem.Challenge.rw_in0208_01 ∧ hd.heap_39 = hd.heap_39 := by k_fill; exact ⟨rfl, rfl⟩
def deedD (d : Deed) : PD := .tuple [.int d.1, .int d.2.1, .int d.2.2]
def intsD (xs : List Nat) : List PD := xs.map fun n : Nat => PyData.int (n : Int)
theorem intsD_get {xs : List Nat} {i m : Nat} (h : xs[i]? = some m) : (intsD xs)[i]? = some (.int m) := by unfold intsD; rw [List.getElem?_map, h]; rfl
theorem intsD_set (xs : List Nat) (i m : Nat) : (intsD xs).set i (.int m) = intsD (xs.set i m) := by unfold intsD; rw [List.map_set]
theorem intsD_len (xs : List Nat) : (intsD xs).length = xs.length := by simp [intsD]
theorem ways_get {k : Nat} (h : k < 6) : (WAYS.map PyData.str)[k]? = some (.str (WAYS.getD k "")) := by
  match k, h with
  | 0, _ => rfl
  | 1, _ => rfl
  | 2, _ => rfl
  | 3, _ => rfl
  | 4, _ => rfl
  | 5, _ => rfl
theorem ways_mem {k : Nat} (h : k < 6) : WAYS.getD k "" ∈ WAYS := by
  match k, h with
  | 0, _ => decide
  | 1, _ => decide
  | 2, _ => decide
  | 3, _ => decide
  | 4, _ => decide
  | 5, _ => decide
theorem Rd.orD {D : Ad} {q : Pr} {h : Heap} {v : Value} {d : PD} (r : Rd D h v d) : Rd (D.or q) h v d := Rd.keep (D := D) (D' := D.or q) (fun _ _ x e => ⟨Or.inl x, e⟩) (fun _ _ x => x) r
theorem RdAll.orD {D : Ad} {q : Pr} {h : Heap} {v : List Value} {d : List PD} (r : RdAll D h v d) : RdAll (D.or q) h v d := RdAll.keep (D := D) (D' := D.or q) (fun _ _ x e => ⟨Or.inl x, e⟩) (fun _ _ x => x) r
theorem c_andN {c : Cx} (hr : Rm c 1) (x y : Nat) : Cal c (.ref 138) [.int x, .int y] (.int (x &&& y : Nat)) := (c_and hr x y).cast (by rw [band_nat])
theorem c_orN {c : Cx} (hr : Rm c 1) (x y : Nat) : Cal c (.ref 145) [.int x, .int y] (.int (x ||| y : Nat)) := (c_or hr x y).cast (by rw [bor_nat])
theorem c_xorN {c : Cx} (hr : Rm c 1) (x y : Nat) : Cal c (.ref 152) [.int x, .int y] (.int (x ^^^ y : Nat)) := (c_xor hr x y).cast (by rw [bxor_nat])
theorem c_imodeN {c : Cx} (hr : Rm c 1) (m : Nat) : Cal c (.ref 28) [.int m] (.int (m &&& 4095 : Nat)) := (c_S_IMODE hr m).cast (by rw [← band_nat]; rfl)
theorem c_ifmtN {c : Cx} (hr : Rm c 1) (m : Nat) : Cal c (.ref 35) [.int m] (.int (m &&& 61440 : Nat)) := (c_S_IFMT hr m).cast (by rw [← band_nat]; rfl)
/-- the room of a list that is written, in a frame -/
theorem aft3_own {W V : Pr} {D D' : Ad} {g h h' : Heap} {m n n' : Nat} (mn : m ≤ n) (gr : Grown g h) (nw : ∀ a, W a → g.get? a = none) (ex : ∀ a, W a → ∃ o, h.get? a = some o) (x : Aft3 (fun b => W b ∨ V b) D h n D' h' n') : Aft3 V D g m D' h' n' :=
  ⟨fun b o w e => x.kept b o (fun q => q.elim (fun q => by rw [nw b q] at e; cases e) w) (gr b o e), fun b o e => x.alive b o (gr b o e), x.sub, fun a q => (x.fresh a q).elim .inl fun q => .inr (q.elim (fun q => q.elim (fun w => .inr ⟨nw a w, let ⟨o, e⟩ := ex a w; x.alive a o e⟩) .inl) fun ⟨e, o⟩ => .inr ⟨gr.none e, o⟩), x.tsub, Nat.le_trans mn x.mono, fun o q => x.ok o (Nat.le_trans q mn)⟩
theorem right_pick {m above kind mask : Nat} (h : kind < 4) : ([PyData.int ((m &&& mask : Nat) : Int), .int ((m ||| mask : Nat) : Int), .int ((m ^^^ mask : Nat) : Int), .int (above : Int)])[kind]? = some (.int (rightv m above kind mask : Nat)) := by
  match kind, h with
  | 0, _ => rfl
  | 1, _ => rfl
  | 2, _ => rfl
  | 3, _ => rfl

theorem done_call {w : World} {d u : Nat} {s : Shared} {mean : ExcName → Option Value} {mg mb : Str → Option Value} {D : Ad} {g : Heap} {a : Addr} {vs : Array Value} {n : Nat} {v0 v2 : Value} {modes : List Nat} {deeds : List Deed} {Q E : Value → Shared → Prop}
    (X : (hd.heap_39 w.params).In s.heap) (T : Top hd.view_39 LS mean mg mb s.heap) (hd1 : d + 11 ≤ 400) (hu1 : u + 33 ≤ 4000)
    (kg : KT w g) (gs : Grown g s.heap) (ga : g.get? a = none) (nDa : ¬ D.p a) (hkd : KD w D) (hdl : ∀ b, D.p b → ∃ o, s.heap.get? b = some o) (htk : Tk true D s.toks)
    (ha : s.heap.get? a = some ⟨.type "list", none, .seq vs n, #[]⟩) (ra : RdAll D s.heap vs.toList (intsD modes)) (r0 : Rd D s.heap v0 (.list (WAYS.map .str))) (r2 : Rd D s.heap v2 (.list (deeds.map deedD)))
    (hl : modes.length = 6) (hok : ∀ d ∈ deeds, deedOk d)
    (hQ : ∀ v h' tk' D', Aft3 (fun b => b = a) D s.heap s.toks D' h' tk' → Rd D' h' v (.list (intsD (doneM modes deeds))) → Q v { s with heap := h', toks := tk' }) :
    wpAny (model P0 w) (AG d u) (call (.ref 300) [v0, .ref a, v2]) Q E s := by
  have kts : KT w s.heap := kg.grow gs
  refine' enterD (binds := [("ways", v0), ("modes", .ref a), ("deeds", v2)]) X T ?ho ?hcd (Nat.lt_of_le_of_lt (by show d ≤ 400; omega) (by decide)) ?hbind ?hkind ?_ ?hco ?hgen ?hk
  (case ho => k_dflt k_is); (case hcd => k_dflt k_is); (case hbind => exact BindsTo.of_eq rfl); (case hkind => exact rfl); (case hco => exact rfl); (case hgen => exact rfl); (case hk => exact rfl)
  intro h₁ tk mo x
  have F := FS.start (dp := d + 1) (un := u + 3) (b := true) (D := D.or fun b => b = a) (xs := ["ways", "modes", "deeds"]) (vs := [v0, .ref a, v2]) (ds := [.list (WAYS.map .str), .list (intsD modes), .list (deeds.map deedD)]) kts
    (fun b o e => .inl (hkd b o e)) (fun b q => q.elim (hdl b) fun q => ⟨_, q ▸ ha⟩)
    (.cons (Rd.orD r0) (.cons (.list (.inr rfl) ha (RdAll.orD ra)) (.cons (Rd.orD r2) .nil))) rfl x
  have ns := x.toInCall.ns
  have gr := F.gr
  generalize hL : s.heap.objs.size = L at *
  have F' := (show FS _ (fun b => Wf _ b ∨ b = a) g D h₁ (upd (upd (upd (fun _ => none) "ways" (.dat (.list (WAYS.map .str)))) "modes" (.own a (intsD modes))) "deeds" (.dat (.list (deeds.map deedD)))) from { F with
    kt := kg
    gr := gs.trans gr
    nw := fun b q => q.elim (fun q => gs.none (F.nw b q)) fun q => q ▸ ga
    off := fun b q q' => q'.elim (F.off b (.inl q)) fun q' => nDa (q' ▸ q)
    ex := fun b q => q.elim (F.ex b) fun q => ⟨_, q ▸ gr _ _ ha⟩
    wl := .inl F.wl
    wc := fun y k e => .inl (.inl (.inr ⟨y, e⟩))
    look := fun y e q => by
      by_cases z : y = "deeds"
      · subst z
        simp only [upd, if_true] at q
        cases q
        exact ⟨v2, .inl ⟨rfl, _, ns, rfl⟩, (Aft.of_grown (D := D) (n := 0) (n' := 0) gr).rd r2⟩
      simp only [upd, if_neg z] at q
      by_cases z : y = "modes"
      · subst z
        simp only [if_true] at q
        cases q
        exact ⟨.ref a, .inl ⟨rfl, _, ns, rfl⟩, rfl, .inr rfl, vs, n, gr _ _ ha, (Aft.of_grown (D := D) (n := 0) (n' := 0) gr).rdAll ra⟩
      simp only [if_neg z] at q
      by_cases z : y = "ways"
      · subst z
        simp only [if_true] at q
        cases q
        exact ⟨v0, .inl ⟨rfl, _, ns, rfl⟩, (Aft.of_grown (D := D) (n := 0) (n' := 0) gr).rd r0⟩
      simp only [if_neg z] at q
      cases q
    kd := hkd
    dl := fun b q => F.dl b (.inl q) })
  have nwW : ∀ b, Wf _ b → s.heap.get? b = none := F.nw
  have exW : ∀ b, Wf _ b → ∃ o, h₁.get? b = some o := F.ex
  clear F x ns
  refine' (show EvSs _ (fun b => Wf _ b ∨ b = a) g _ _ (fun pf _ => pf = .ret (.list (intsD (doneM modes deeds)))) from ?B) _ D { s with heap := h₁, toks := tk } _ _ ⟨rfl, Nat.le_refl _, Nat.le_refl _, rfl⟩ ⟨fun e => let ⟨o, q⟩ := htk.1 e; ⟨o, Nat.le_trans q mo⟩, htk.2⟩ F' ?K
  case K =>
    intro fl pf ρ' h' tk' D' hp a3 _ fr
    subst hp
    cases fl <;> simp only [FlR] at fr
    exact hQ _ h' tk' D' (aft3_own mo gr nwW exW a3) fr
  case B =>
    have rm : ∀ m, m ≤ 10 → ∀ {env : Env}, Rm ⟨w, d + 1, u + 3, env, true⟩ m := fun m h {env} => ⟨by show d + 1 + m ≤ 400; omega, by show u + 3 + 3 * m ≤ 4000; omega⟩
    refine ss_for (ds := deeds.map deedD) (EvI0.evI (ei_list (ev_name rfl rfl rfl rfl)) (.inr ⟨_, _, _, rfl⟩))
      (fun i ρ' => ρ' "ways" = some (.dat (.list (WAYS.map .str))) ∧ ρ' "modes" = some (.own a (intsD (doneM modes (deeds.take i)))) ∧ ∀ y ys, ρ' y = some (.own a ys) → y = "modes") ⟨rfl, rfl, fun y ys q => ?_⟩ ?_ ?_ (fun _ => rfl)
    · by_cases z : y = "modes"
      · exact z
      · by_cases z' : y = "deeds"
        · simp only [upd, if_pos z'] at q; cases q
        · by_cases z'' : y = "ways"
          · simp only [upd, if_neg z, if_neg z', if_pos z''] at q; cases q
          · simp only [upd, if_neg z, if_neg z', if_neg z''] at q; cases q
    · rintro i d' ρ' hd' ⟨h1, h2, h3⟩
      rw [List.getElem?_map] at hd'
      obtain ⟨⟨place, kind, mask⟩, hdd, rfl⟩ := Option.map_eq_some_iff.mp hd'
      obtain ⟨o1, o2, o3⟩ := hok _ (List.mem_of_getElem? hdd)
      dsimp only at o1 o2 o3
      have hM : doneM modes (deeds.take (i + 1)) = stepM (doneM modes (deeds.take i)) (place, kind, mask) := by
        rw [List.take_add_one, hdd]; unfold doneM; rw [List.foldl_append]; rfl
      have hlM : (doneM modes (deeds.take i)).length = 6 := by rw [doneM_len, hl]
      generalize doneM modes (deeds.take i) = M at *
      refine ⟨_, asg_tuple (asgs_cons (asg_name (.inl ⟨rfl, rfl⟩)) (asgs_cons (asg_name (.inl ⟨rfl, rfl⟩)) (asgs_cons (asg_name (.inl ⟨rfl, rfl⟩)) asgs_nil rfl) rfl) rfl) rfl rfl, ?_⟩
      refine ss_assign (.inl ⟨rfl, rfl⟩) (evs (ev_call_def (ev_top ⟨rfl, rfl, rfl⟩ rfl (by k_is) rfl) (by k_is) (es_cons (ev_name rfl rfl rfl (dats_of h1)) (es_cons (ev_name rfl rfl rfl rfl) es_nil rfl) rfl) (c_getitem_list (rm 1 (by decide)) (WAYS.map .str) place _ (ways_get o1) (by omega)) (.inr ⟨_, _, rfl, rfl, rfl⟩))) rfl ?_
      have hpar : (intsD M)[par place]? = some (.int (M.getD (par place) 0 : Nat)) := intsD_get (getD_of (by rw [hlM]; exact par_lt _))
      refine ss_assign (.inl ⟨rfl, rfl⟩) (evs2 (ev_call_def (ev_top ⟨rfl, rfl, rfl⟩ rfl (by k_is) rfl) (by k_is)
        (es_cons (ev_name rfl rfl rfl (alls_own h2)) (es_cons (ev_call_def (ev_top ⟨rfl, rfl, rfl⟩ rfl (by k_is) rfl) (by k_is) (es_cons (ev_name rfl rfl rfl (alls_of h1)) (es_cons (ev_call_def (ev_top ⟨rfl, rfl, rfl⟩ rfl (by k_is) rfl) (by k_is) (es_cons (ev_name rfl rfl rfl rfl) es_nil rfl) (c_dir (rm 6 (by decide)) place o1) (st1 rfl)) es_nil rfl) rfl)
          (c_indexOf (rm 1 (by decide)) rfl WAYS (WAYS.getD (par place) "") (par place) (par_first place o1).1 (par_first place o1).2) (.inr ⟨_, _, rfl, rfl, rfl⟩)) es_nil rfl) rfl)
        (c_getitem_list (rm 1 (by decide)) (intsD M) (par place) _ hpar (by have := par_lt place; omega)) (.inr ⟨_, _, rfl, rfl, rfl⟩)) rfl) rfl ?_
      refine ss_for (ds := (List.range 6).map fun (i : Nat) => PyData.int i) (EvI0.evI (ei_range (n := 6) (ev_boot ⟨rfl, rfl, rfl⟩ rfl (by k_is) (by boot_by_name) (by decide) rfl) (ev_call_builtin (ev_boot ⟨rfl, rfl, rfl⟩ rfl (by k_is) (by boot_by_name) (by decide) rfl) (es_cons (ev_name rfl rfl rfl (dats_of h1)) es_nil rfl) (cal_len_list (by decide)) rfl rfl) (by decide) (by decide) rfl) (.inl ⟨_, _, rfl⟩))
        (fun j ρ'' => ρ'' "ways" = some (.dat (.list (WAYS.map .str))) ∧ ρ'' "modes" = some (.own a (intsD (upto j M (M.getD (par place) 0) (place, kind, mask)))) ∧ (∀ y ys, ρ'' y = some (.own a ys) → y = "modes") ∧ ρ'' "folder" = some (.dat (.str (WAYS.getD place ""))) ∧ ρ'' "above" = some (.dat (.int (M.getD (par place) 0 : Nat))) ∧ ρ'' "kind" = some (.dat (.int kind)) ∧ ρ'' "mask" = some (.dat (.int mask))) ?_ ?_ ?_ (fun _ => rfl)
      · refine ⟨h1, ?_, fun y ys q => ?_, rfl, rfl, rfl, rfl⟩
        · rw [upto_zero]; exact h2
        · by_cases z1 : y = "above"
          · simp only [upd, if_pos z1] at q; cases q
          simp only [upd, if_neg z1] at q
          by_cases z2 : y = "folder"
          · simp only [if_pos z2] at q; cases q
          simp only [if_neg z2] at q
          by_cases z3 : y = "mask"
          · simp only [if_pos z3] at q; cases q
          simp only [if_neg z3] at q
          by_cases z4 : y = "kind"
          · simp only [if_pos z4] at q; cases q
          simp only [if_neg z4] at q
          by_cases z5 : y = "place"
          · simp only [if_pos z5] at q; cases q
          simp only [if_neg z5] at q
          exact h3 y ys q
      · rintro j d' ρ₂ hj ⟨e1, e2, e3, e4, e5, e6, e7⟩
        have hj6 : j < 6 := by have := (List.getElem?_eq_some_iff.mp hj).1; simpa using this
        obtain rfl : d' = .int j := by
          rw [List.getElem?_map, List.getElem?_range hj6] at hj
          simpa using hj.symm
        refine ⟨_, asg_name (.inl ⟨rfl, rfl⟩), ?_⟩
        have un : ∀ {z : Str} {dd : PD}, ∀ y ys, upd ρ₂ z (.dat dd) y = some (.own a ys) → y = "modes" := fun {z dd} y ys q => by
          by_cases z' : y = z
          · simp only [upd, if_pos z'] at q; cases q
          · simp only [upd, if_neg z'] at q; exact e3 y ys q
        refine ss_if (b := under place j) (evts (et_plain (EvE.cast (ev_call_def (ev_top ⟨rfl, rfl, rfl⟩ rfl (by k_is) rfl) (by k_is)
          (es_cons (ev_call_def (ev_top ⟨rfl, rfl, rfl⟩ rfl (by k_is) rfl) (by k_is) (es_cons (ev_list (es_cons (ev_name rfl rfl rfl (alls_of e4)) (es_cons (ev_call_def (ev_top ⟨rfl, rfl, rfl⟩ rfl (by k_is) rfl) (by k_is) (es_cons (ev_name rfl rfl rfl (alls_of e1)) (es_cons (ev_name rfl rfl rfl rfl) es_nil rfl) rfl) (c_getitem_list (rm 1 (by decide)) (WAYS.map .str) j _ (ways_get hj6) (by omega)) (.inr ⟨_, _, rfl, rfl, rfl⟩)) es_nil rfl) rfl) (by show 2 ≤ sizeLine; decide)) es_nil rfl) (c_commonpath (rm 8 (by decide)) (ways_mem o1) (ways_mem hj6)) (st1 rfl))
            (es_cons (ev_name rfl rfl rfl (alls_of e4)) es_nil rfl) rfl) (c_eq_str (rm 1 (by decide)) _ _) (.inr ⟨_, _, rfl, rfl, rfl⟩)) (by rw [cR_under place o1 j hj6])) tru_bool rfl)) ?_ ?_
        · intro hu
          have hlj : j < (upto j M (M.getD (par place) 0) (place, kind, mask)).length := by rw [upto_len, hlM]; exact hj6
          have hmj : M[j]? = some (M.getD j 0) := getD_of (by rw [hlM]; exact hj6)
          have hUj := upto_take (above := M.getD (par place) 0) (d := (place, kind, mask)) hmj hu
          have hgj : (intsD (upto j M (M.getD (par place) 0) (place, kind, mask)))[j]? = some (.int (M.getD j 0 : Nat)) := intsD_get (upto_at hmj)
          generalize M.getD (par place) 0 = above at *
          generalize M.getD j 0 = m at *
          refine ss_assign (.inl ⟨rfl, rfl⟩) (evs2 (ev_call_def (ev_top ⟨rfl, rfl, rfl⟩ rfl (by k_is) rfl) (by k_is) (es_cons (ev_name rfl rfl rfl (alls_own e2)) (es_cons (ev_name rfl rfl rfl rfl) es_nil rfl) rfl) (c_getitem_list (rm 1 (by decide)) _ j _ hgj (by omega)) (.inr ⟨_, _, rfl, rfl, rfl⟩)) rfl) rfl ?_
          refine ss_assign (.inl ⟨rfl, rfl⟩) (evs (ev_call_def (ev_top ⟨rfl, rfl, rfl⟩ rfl (by k_is) rfl) (by k_is) (es_cons (ev_tuple
            (es_cons (ev_call_def (ev_top ⟨rfl, rfl, rfl⟩ rfl (by k_is) rfl) (by k_is) (es_cons (ev_name rfl rfl rfl rfl) (es_cons (ev_name rfl rfl rfl (dats_of e7)) es_nil rfl) rfl) (c_andN (rm 1 (by decide)) m mask) (.inr ⟨_, _, rfl, rfl, rfl⟩))
            (es_cons (ev_call_def (ev_top ⟨rfl, rfl, rfl⟩ rfl (by k_is) rfl) (by k_is) (es_cons (ev_name rfl rfl rfl rfl) (es_cons (ev_name rfl rfl rfl (dats_of e7)) es_nil rfl) rfl) (c_orN (rm 1 (by decide)) m mask) (.inr ⟨_, _, rfl, rfl, rfl⟩))
            (es_cons (ev_call_def (ev_top ⟨rfl, rfl, rfl⟩ rfl (by k_is) rfl) (by k_is) (es_cons (ev_name rfl rfl rfl rfl) (es_cons (ev_name rfl rfl rfl (dats_of e7)) es_nil rfl) rfl) (c_xorN (rm 1 (by decide)) m mask) (.inr ⟨_, _, rfl, rfl, rfl⟩))
            (es_cons (ev_name rfl rfl rfl (dats_of e5)) es_nil rfl) rfl) rfl) rfl) (by show 4 ≤ sizeLine; decide)) (es_cons (ev_name rfl rfl rfl (dats_of e6)) es_nil rfl) rfl)
            (c_getitem_tuple (rm 1 (by decide)) _ kind _ (right_pick (m := m) (above := above) (mask := mask) o2) (by omega)) (.inr ⟨_, _, rfl, rfl, rfl⟩))) rfl ?_
          refine ss_setitem (rm 1 (by decide)) rfl rfl rfl e2 ?_ (by rw [intsD_len]; exact hlj) (by omega) (ev_top ⟨rfl, rfl, rfl⟩ rfl (by k_is) rfl) (by k_is) (evs (ev_name rfl rfl rfl rfl))
            (evs (ev_call_def (ev_top ⟨rfl, rfl, rfl⟩ rfl (by k_is) rfl) (by k_is) (es_cons (ev_call_def (ev_top ⟨rfl, rfl, rfl⟩ rfl (by k_is) rfl) (by k_is) (es_cons (ev_name rfl rfl rfl rfl) es_nil rfl) (c_ifmtN (rm 1 (by decide)) m) (st1 rfl))
              (es_cons (ev_call_def (ev_top ⟨rfl, rfl, rfl⟩ rfl (by k_is) rfl) (by k_is) (es_cons (ev_name rfl rfl rfl rfl) es_nil rfl) (c_imodeN (rm 1 (by decide)) (rightv m above kind mask)) (st1 rfl)) es_nil rfl) rfl) (c_orN (rm 1 (by decide)) (m &&& 61440) (rightv m above kind mask &&& 4095)) (.inr ⟨_, _, rfl, rfl, rfl⟩))) rfl rfl rfl rfl ?_
          · intro y ys q
            by_cases z1 : y = "right"
            · simp only [upd, if_pos z1] at q; cases q
            simp only [upd, if_neg z1] at q
            by_cases z2 : y = "mode"
            · simp only [if_pos z2] at q; cases q
            simp only [if_neg z2] at q
            exact un y ys q
          refine ss_nil (ss_nil ⟨e1, ?_, fun y ys q => ?_, e4, e5, e6, e7⟩)
          · show some (Ent.own a _) = _
            rw [intsD_set, hUj]
            rfl
          · by_cases z0 : y = "modes"
            · exact z0
            simp only [upd, if_neg z0] at q
            by_cases z1 : y = "right"
            · simp only [if_pos z1] at q; cases q
            simp only [if_neg z1] at q
            by_cases z2 : y = "mode"
            · simp only [if_pos z2] at q; cases q
            simp only [if_neg z2] at q
            exact un y ys q
        · intro hu
          refine ss_nil (ss_nil ⟨e1, ?_, un, e4, e5, e6, e7⟩)
          rw [upto_skip hu]
          exact e2
      · rintro ρ₂ ⟨e1, e2, e3, e4, e5, e6, e7⟩
        refine ss_nil (ss_nil ⟨e1, ?_, e3⟩)
        rw [hM]
        exact e2
    · rintro ρ' ⟨h1, h2, h3⟩
      rw [List.length_map, List.take_length] at h2
      refine ss_nil ?_
      exact ss_ret_own rfl rfl rfl h2 rfl
end Mine
end

-- R1
section
open PySem PySem.W PyProof.Rows PySem.W.X PySem.Calls PySem.Spec PySem.SeqAt
set_option Elab.async false
set_option maxRecDepth 100000
set_option linter.unusedVariables false
namespace Mine
/-- runs of lists -/
theorem pick_to {xs : List PD} {i : Int} {b : Nat} (h : sliceBounds none (some i) none xs.length = (((0 : Nat) : Int), (b : Int), 1)) : pick xs none (some i) none = xs.take b := by
  unfold pick
  rw [h]
  simp only [sliceRange_one]
  have z : (fun i : Nat => xs[i]?) = fun i => xs.toArray[i]? := by funext i; simp
  rw [z, pick_run]
  simp
theorem pick_len {xs : List PD} {b : Nat} : pick xs none (some (b : Int)) none = xs.take b := by
  have h : sliceBounds none (some (b : Int)) none xs.length = (((0 : Nat) : Int), ((min b xs.length : Nat) : Int), 1) := by
    simp only [sliceBounds, Option.getD_none]
    have h2 : ¬ ((b : Int) < 0) := by omega
    simp only [h2, if_false, show (1 : Int) > 0 by decide, if_true]
    congr 1; congr 1; omega
  rw [pick_to h, ← List.take_eq_take_min]
theorem pick_but {xs : List PD} : pick xs none (some (-1)) none = xs.take (xs.length - 1) := by
  have h : sliceBounds none (some (-1)) none xs.length = (((0 : Nat) : Int), ((xs.length - 1 : Nat) : Int), 1) := by
    simp only [sliceBounds, Option.getD_none]
    have h2 : ((-1 : Int) < 0) := by omega
    simp only [h2, show (1 : Int) > 0 by decide, if_true]
    congr 1; congr 1; omega
  rw [pick_to h]
theorem pick_back {xs : List PD} : pick xs none none (some (-1)) = xs.reverse := by
  unfold pick
  rw [krv_bounds]
  show (sliceRange ((xs.length : Int) - 1) (-1) (-1)).filterMap (xs[·]?) = _
  rw [krv_sliceRange, krv_range, List.filterMap_reverse]
  have z : (fun i : Nat => xs[i]?) = fun i => xs.toArray[i]? := by funext i; simp
  have := krv_all xs.toArray
  rw [z, show xs.length = xs.toArray.size by simp, this]
theorem pick_all {xs : List PD} : pick xs none none none = xs := by
  have h : sliceBounds none none none xs.length = (((0 : Nat) : Int), ((xs.length : Nat) : Int), 1) := by
    simp only [sliceBounds, Option.getD_none]
    simp only [show (1 : Int) > 0 by decide, if_true]; rfl
  unfold pick
  rw [h]
  simp only [sliceRange_one]
  have z : (fun i : Nat => xs[i]?) = fun i => xs.toArray[i]? := by funext i; simp
  rw [z, pick_run]
  simp
mutual
theorem Rd.fn {D : Ad} {h : Heap} : ∀ {v d d'}, Rd D h v d → Rd D h v d' → d = d'
  | _, _, _, .none, .none => rfl
  | _, _, _, .bool b, .bool _ => rfl
  | _, _, _, .int i t, .int _ _ => rfl
  | _, _, _, .str x t _, .str _ _ _ => rfl
  | _, _, _, .list _ o r, .list _ o' r' => by rw [o] at o'; cases o'; rw [RdAll.fn r r']
  | _, _, _, .tuple _ o r, .tuple _ o' r' => by rw [o] at o'; cases o'; rw [RdAll.fn r r']
  | _, _, _, .list _ o r, .tuple _ o' r' => by rw [o] at o'; have q := congrArg Obj.cls (Option.some.inj o'); injection q with q; exact absurd q (by decide)
  | _, _, _, .tuple _ o r, .list _ o' r' => by rw [o] at o'; have q := congrArg Obj.cls (Option.some.inj o'); injection q with q; exact absurd q (by decide)
theorem RdAll.fn {D : Ad} {h : Heap} : ∀ {v d d'}, RdAll D h v d → RdAll D h v d' → d = d'
  | _, _, _, .nil, .nil => rfl
  | _, _, _, .cons r rs, .cons r' rs' => by rw [Rd.fn r r', RdAll.fn rs rs']
end
section
variable {c : Cx} {ρ : Str → Option PD}
theorem ev_neg {e : Expr} {pos : Pos} {a : Int} (h : EvE c ρ e (.int a)) : EvE c ρ (.UnaryOp .USub e pos) (.int (-a)) := by
  intro A D s H Q E k
  refine UnaryOp_ ?_
  refine h A D s H _ _ fun v h₁ t₁ D₁ a₁ r₁ => ?_
  cases r₁
  exact PyProof.Rows.neg_int (k _ h₁ (t₁ + 1) D₁ (a₁.later (Nat.le_succ _)) (.int _ _))
/-- a method of a list, called with arguments -/
theorem ev_meth_list {o : Expr} {name : Str} {id : String} {xs : List PD} {apos pos : Pos} {e : Expr} {es : List Expr} {ds : List PD} {d : PD} (ho : EvE c ρ o (.list xs))
    (hg : ∀ (A : Around) (s : Shared) (a : Addr) (vs : Array Value) (n : Nat) (pl : Sem Bool) (Q : Value × List Value → Shared → Prop) (E : Value → Shared → Prop), s.heap.get? a = some ⟨.type "list", none, .seq vs n, #[]⟩ → Q (.builtin id, [.ref a]) s → wpAny (model P0 c.w) A (getMethod (.ref a) name pl) Q E s)
    (he : EvEs c ρ (e :: es) ds) (hc : Cal c (.builtin id) (.list xs :: ds) d) (h1 : starEach (e :: es) c.env = (false, eval e c.env) :: starEach es c.env) (h2 : (backTo pos (starEach es c.env)).any (·.1) = false) {pl : Sem Bool}
    (hev : eval (.Call (.Attribute o name apos) (e :: es) [] pos) c.env = (do
      let ov ← eval o c.env
      standAt apos.atName
      let (f, first) ← holding [ov] (getMethod ov name pl)
      callWith pos f first (backTo pos (starEach (e :: es) c.env)) [])) : EvE c ρ (.Call (.Attribute o name apos) (e :: es) [] pos) d := by
  intro A D s a Q E k
  refine MethodCall_ (pl := pl) ?_ hev
  refine ho A D s a _ _ fun v h₁ t₁ D₁ a₁ r₁ => ?_
  cases r₁ with
  | list da ob ra =>
    refine hg A _ _ _ _ _ _ _ ob ?_
    have A₁ : At c A D₁ { s with heap := h₁, toks := t₁ } ρ := a.aft a₁
    refine callWith_method1 ?_ h1 h2
    refine he A D₁ _ pos A₁ _ _ fun vs h₂ t₂ D₂ a₂ r₂ => ?_
    have A₂ : At c A D₂ { s with heap := h₂, toks := t₂ } ρ := A₁.aft (s' := { s with heap := h₂, toks := t₂ }) a₂
    exact hc A D₂ _ _ a.ok A₂.hs (.cons (a₂.rd (.list da ob ra)) r₂) _ _ fun v h₃ t₃ D₃ a₃ r₃ => k v h₃ t₃ D₃ (a₁.trans (Aft.trans a₂ a₃)) r₃
theorem gm_index (A : Around) (s : Shared) (a : Addr) (vs : Array Value) (n : Nat) (pl : Sem Bool) (Q : Value × List Value → Shared → Prop) (E : Value → Shared → Prop) (o : s.heap.get? a = some ⟨.type "list", none, .seq vs n, #[]⟩) (q : Q (.builtin "list.index", [.ref a]) s) : wpAny (model P0 c.w) A (getMethod (.ref a) "index" pl) Q E s :=
  getMethod_list_of PySem.F.slot_list_index PySem.F.type_list_index (items := vs) ⟨_, o, rfl, n, rfl⟩ ⟨_, o, rfl⟩ q
open Classical in
theorem cal_index {xs : List PD} {y z : PD} {j : Nat} (hu : c.un + 70 < cLine) (hy : shaped y = true) (hx : ∀ x ∈ xs, shaped x = true) (hj : xs[j]? = some z) (hz : PyData.eqv z y = true) (hno : ∀ (i : Nat) x, i < j → xs[i]? = some x → PyData.eqv x y = false) (hs : j < 2 ^ 62) :
    Cal c (.builtin "list.index") [.list xs, y] (.int j) := by
  intro A D s vs ok hs' r Q E k
  cases r with
  | cons r rs => cases rs with
    | cons r' rs =>
      cases rs
      cases r with
      | list da o ra =>
        rename_i v' ax its n
        let e : Value → Bool := fun v => decide (∃ d, Rd D s.heap v d ∧ PyData.eqv d y = true)
        have ev : ∀ v d, Rd D s.heap v d → e v = PyData.eqv d y := fun v d rv => by
          show decide _ = _
          cases q : PyData.eqv d y with
          | true => exact decide_eq_true ⟨d, rv, q⟩
          | false =>
            refine decide_eq_false ?_
            rintro ⟨d', rv', q'⟩
            rw [Rd.fn rv rv', q'] at q; cases q
        obtain ⟨vj, hvj, rvj⟩ := ra.get hj
        have hsz : j < its.size := by have := (List.getElem?_eq_some_iff.mp hvj).1; simpa using this
        have ej : its[j] = vj := by rw [Array.getElem?_toList, Array.getElem?_eq_getElem hsz] at hvj; exact Option.some.inj hvj
        obtain ⟨_, ry⟩ := r'.reads
        refine call_meets PySem.F.slot_list_index ⟨_, o, rfl⟩ PySem.F.entry_list_index (PySem.F.args_list_index_2 _ _)
          (list_indexAt ax its n none #[] v' e j hsz (by omega) ?_ ?_) ⟨o, fun v hv => ?_, ?_⟩
        · rw [ej, ev _ _ rvj, hz]
        · intro m hm hlt
          have hm' : its.toList[m]? = some its[m] := by rw [Array.getElem?_toList]; exact Array.getElem?_eq_getElem hm
          obtain ⟨d, hd, rd⟩ := ra.get' hm'
          rw [ev _ _ rd, hno m d hlt hd]
        · obtain ⟨m, hm, rfl⟩ := List.mem_iff_getElem.mp (Array.mem_toList_iff.mpr hv)
          obtain ⟨d, hd, rd⟩ := ra.get' (List.getElem?_eq_getElem hm)
          rw [ev _ _ rd]
          obtain ⟨_, rv⟩ := rd.reads
          have sd := hx d (List.mem_of_getElem? hd)
          refine eqAt_reads d y _ s _ _ _ _ rv ry (canLay_of_shaped sd) (canLay_of_shaped hy) (room_of_shaped sd ?_)
          show A.units + 1 + 64 < cLine
          have := ok.u
          omega
        · exact k _ s.heap _ D (Aft.refl _ _) (.int _ _)
end
/-- arithmetic of naturals -/
theorem ediv_nat (a b : Nat) : ((a : Int).fdiv ((2 : Int) ^ ((b : Int).toNat))) = ((a / 2 ^ b : Nat) : Int) := by
  rw [Int.toNat_natCast, Int.fdiv_eq_ediv_of_nonneg _ (Int.pow_nonneg (by decide))]
  norm_cast
theorem emod_nat (a b : Nat) : ((a : Int).fmod (b : Int)) = ((a % b : Nat) : Int) := by
  rw [Int.fmod_eq_emod_of_nonneg _ (Int.natCast_nonneg b)]
  norm_cast
section
variable {c : Cx}
theorem op_addN (a b : Nat) : Op2 c (binaryOp .Add) (.int a) (.int b) (.int ((a + b : Nat) : Int)) := by
  have := op_add (c := c) (a := a) (b := b)
  rw [← Int.natCast_add] at this
  exact this
theorem op_modN (a b : Nat) (h : b ≠ 0) : Op2 c (binaryOp .Mod) (.int a) (.int b) (.int ((a % b : Nat) : Int)) := by
  have := op_mod (c := c) (a := a) (b := b) (by omega)
  rw [emod_nat] at this
  exact this
theorem op_divN (a b : Nat) (h : b ≠ 0) (h' : b < 1073741824) : Op2 c (binaryOp .FloorDiv) (.int a) (.int b) (.int ((a / b : Nat) : Int)) := by
  have := op_div (c := c) (a := a) (b := b) (by omega) (PyProof.noPylong_small (by omega))
  rw [Int.fdiv_eq_ediv_of_nonneg _ (by omega)] at this
  exact this
theorem op_mulN (a b : Nat) (h : IntMulOk a b) : Op2 c (binaryOp .Mult) (.int a) (.int b) (.int ((a * b : Nat) : Int)) := by
  have := op_mul (c := c) h
  rw [← Int.natCast_mul] at this
  exact this
theorem beqN (a b : Nat) : ((a : Int) == (b : Int)) = (a == b) := by rw [Bool.eq_iff_iff, beq_iff_eq, beq_iff_eq]; exact Int.ofNat_inj
theorem op_eqN (a b : Nat) : Op2 c (compareOp .Eq) (.int a) (.int b) (.bool (a == b)) := by
  have := op_eq_int (c := c) (a := a) (b := b)
  rw [beqN] at this
  exact this
theorem op_andN (a b : Nat) : Op2 c (binaryOp .BitAnd) (.int a) (.int b) (.int ((a &&& b : Nat) : Int)) := by
  have := op_and (c := c) (a := a) (b := b)
  rw [band_nat] at this
  exact this
theorem op_powN (a b : Nat) (h : a < 2 ^ 60) (h' : b ≤ 1000000) : Op2 c (binaryOp .Pow) (.int a) (.int b) (.int ((a ^ b : Nat) : Int)) := by
  have := op_pow (c := c) (a := a) (b := b) (by omega) (by omega) (by omega)
  rw [Int.toNat_natCast, ← Int.natCast_pow] at this
  exact this
end
end Mine
end

-- C11
section
open PySem PySem.W PyProof.Rows PySem.W.X PySem.Calls PySem.Spec PySem.SeqAt
set_option Elab.async false
set_option maxRecDepth 100000
set_option maxHeartbeats 0
set_option linter.unusedVariables false
namespace Mine
theorem filled12 : PySem.Challenge.rw_in0208_01 = PySem.Challenge.rw_in0208_01 ∧ hd.heap_39 = hd.heap_39 := by k_fill; exact ⟨rfl, rfl⟩
-- tb_start: the sides of «cal_def»
local macro_rules | `(tactic| tb_start) => `(tactic| ((case ho => k_dflt k_is); (case hcd => k_dflt k_is); (case hbind => first | exact bt1 fun _ => rfl | exact bt2 fun _ _ => rfl | exact bt3 fun _ _ _ => rfl | exact bt4 fun _ _ _ _ => rfl | exact bt0 rfl); (case hkind => exact fun _ => rfl); (case hco => exact rfl); (case hgen => exact rfl); (case hk => exact rfl)))
/-- the names of a place -/
def nmD (k : Nat) : List PD := (NAMES.getD k []).map .str
theorem names_get {k : Nat} (h : k < 6) : (NAMES.map strsD)[k]? = some (.list (nmD k)) := by
  match k, h with
  | 0, _ => rfl
  | 1, _ => rfl
  | 2, _ => rfl
  | 3, _ => rfl
  | 4, _ => rfl
  | 5, _ => rfl
theorem nm_same : ∀ p, p < 6 → ∀ f, f < 6 → (shaped (.list ((nmD p).take (nmD f).length)) && shaped (.list (nmD f)) && noMix (.list ((nmD p).take (nmD f).length)) (.list (nmD f)) && (PySem.Spec.same (.list ((nmD p).take (nmD f).length)) (.list (nmD f)) == under f p)) = true := by decide +kernel
theorem nm_len : ∀ p, p < 6 → (nmD p).length ≤ 10 := by decide +kernel
theorem nm_shaped : ((NAMES.map strsD).all fun x => shaped x) = true := by decide +kernel
theorem nm_par : ∀ f, f < 6 → (shaped (.list ((nmD f).take ((nmD f).length - 1))) && PyData.eqv (.list (nmD (par f))) (.list ((nmD f).take ((nmD f).length - 1))) && (List.range (par f)).all fun i => !PyData.eqv (.list (nmD i)) (.list ((nmD f).take ((nmD f).length - 1)))) = true := by decide +kernel
theorem index_par {c : Cx} (hu : c.un + 70 < cLine) (f : Nat) (h : f < 6) : Cal c (.builtin "list.index") [.list (NAMES.map strsD), .list ((nmD f).take ((nmD f).length - 1))] (.int (par f)) := by
  have q := nm_par f h
  simp only [Bool.and_eq_true] at q
  obtain ⟨⟨q1, q2⟩, q3⟩ := q
  refine cal_index hu q1 (fun x hx => List.all_eq_true.mp nm_shaped x hx) (names_get (par_lt f)) q2 (fun i x hi hx => ?_) (by have := par_lt f; omega)
  have := List.all_eq_true.mp q3 i (List.mem_range.mpr hi)
  rw [names_get (Nat.lt_trans hi (par_lt f))] at hx
  cases hx
  simpa using this
theorem rightR_cons (firsts : List Nat) (bit : Nat) (d : Deed) (ds : List Deed) (place turned : Nat) : rightR firsts bit (d :: ds) place turned =
    if under d.1 place = true then
      if d.2.1 = 3 then rightR firsts bit ds (par d.1) turned
      else if d.2.1 = 2 then rightR firsts bit ds place ((turned + d.2.2 / 2 ^ bit) % 2)
      else if d.2.2 / 2 ^ bit % 2 = d.2.1 then (d.2.1 + turned) % 2
      else rightR firsts bit ds place turned
    else rightR firsts bit ds place turned := rfl
theorem c_law_right {c : Cx} (hr : Rm c 10) (firsts : List Nat) (deeds : List Deed) (place bit : Nat) (hl : firsts.length = 6) (hok : ∀ d ∈ deeds, deedOk d) (hp : place < 6) (hb : bit < 12) (hdl : deeds.length ≤ 1000) :
    Cal c (.ref 307) [.list (intsD firsts), .list (deeds.map deedD), .int place, .int bit] (.int (rightR firsts bit deeds.reverse place 0 : Nat)) := by
  refine' cal_def (xs := ["firsts", "deeds", "place", "bit"]) ?ho ?hcd hr.lim rfl ?hbind ?hkind ?hco ?hgen ?hk ?_; tb_start
  intro L base
  have sl : ∀ n : Nat, n ≤ 1000 → n ≤ sizeLine := fun n h => Nat.le_trans h (by decide)
  have hu : c.un + 3 + 70 < cLine := by have := hr.2; exact Nat.lt_of_le_of_lt (by omega : c.un + 3 + 70 ≤ 4200) (by decide)
  have hbn : (2 : Nat) ^ bit ≠ 0 := Nat.ne_of_gt (Nat.two_pow_pos bit)
  have hbs : (2 : Nat) ^ bit < 1073741824 := Nat.lt_of_le_of_lt (Nat.pow_le_pow_right (by decide) (Nat.le_of_lt hb)) (by decide)
  refine ss_assign (.inl ⟨rfl, rfl⟩) (evs (ev_call_def (ev_top ⟨rfl, rfl, rfl⟩ rfl (by k_is) rfl) (by k_is) es_nil (c_law_names (hr.down.less (by decide))) (.inl ⟨rfl, rfl⟩))) rfl ?_
  refine ss_assign (.inl ⟨rfl, rfl⟩) (evs ev_int) rfl ?_
  have hrev : (deeds.map deedD).reverse = deeds.reverse.map deedD := by rw [List.map_reverse]
  refine ss_for (ds := deeds.reverse.map deedD) (EvI0.evI (ei_list (ev_slice_list (xs := deeds.map deedD) (lo := none) (hi := none) (stp := some (-1)) (ev_name rfl rfl rfl rfl) ep_none ep_none (ep_some (ev_neg ev_int)) (by decide) (by rw [List.length_map]; exact sl _ hdl) (pick_back.trans hrev))) (.inr ⟨_, _, _, rfl⟩))
    (fun i ρ' => ρ' "firsts" = some (.dat (.list (intsD firsts))) ∧ ρ' "bit" = some (.dat (.int bit)) ∧ ρ' "names" = some (.dat (.list (NAMES.map strsD))) ∧
      ∃ p t, p < 6 ∧ ρ' "place" = some (.dat (.int (p : Nat))) ∧ ρ' "turned" = some (.dat (.int (t : Nat))) ∧ rightR firsts bit (deeds.reverse.drop i) p t = rightR firsts bit deeds.reverse place 0)
    ⟨rfl, rfl, rfl, place, 0, hp, rfl, rfl, rfl⟩ ?_ ?_ (fun _ => rfl)
  · rintro i d' ρ' hd' ⟨h1, h2, h3, p, t, hp6, h4, h5, hR⟩
    rw [List.getElem?_map] at hd'
    obtain ⟨⟨folder, kind, mask⟩, hdd, rfl⟩ := Option.map_eq_some_iff.mp hd'
    obtain ⟨o1, o2, o3⟩ := hok _ (List.mem_reverse.mp (List.mem_of_getElem? hdd))
    dsimp only at o1 o2 o3
    have hdrop : deeds.reverse.drop i = (folder, kind, mask) :: deeds.reverse.drop (i + 1) := by
      obtain ⟨hi, e⟩ := List.getElem?_eq_some_iff.mp hdd
      rw [List.drop_eq_getElem_cons hi, e]
    rw [hdrop, rightR_cons] at hR
    dsimp only at hR
    generalize rightR firsts bit deeds.reverse place 0 = res at *
    refine ⟨_, asg_tuple (asgs_cons (asg_name (.inl ⟨rfl, rfl⟩)) (asgs_cons (asg_name (.inl ⟨rfl, rfl⟩)) (asgs_cons (asg_name (.inl ⟨rfl, rfl⟩)) asgs_nil rfl) rfl) rfl) rfl rfl, ?_⟩
    have q := nm_same p hp6 folder o1
    simp only [Bool.and_eq_true] at q
    obtain ⟨⟨⟨q1, q2⟩, q3⟩, q4⟩ := q
    have q4 := beq_iff_eq.mp q4
    have kp : ∀ (i' : Nat) (ρ₂ : Nm), ρ₂ "firsts" = some (.dat (.list (intsD firsts))) ∧ ρ₂ "bit" = some (.dat (.int bit)) ∧ ρ₂ "names" = some (.dat (.list (NAMES.map strsD))) → True := fun _ _ _ => trivial
    refine ss_if (b := under folder p) (evts (et_cmp (ev_slice_list (xs := nmD p) (ys := (nmD p).take (nmD folder).length) (lo := none) (hi := some ((nmD folder).length : Int)) (stp := none)
      (ev_item (ev_name rfl rfl rfl (alls_of h3)) (ev_name rfl rfl rfl (alls_of h4)) (fun _ _ => rfl) (gi_list (names_get hp6) (by omega))) ep_none
      (ep_some (ev_call_builtin (ev_boot ⟨rfl, rfl, rfl⟩ rfl (by k_is) (by boot_by_name) (by decide) rfl) (es_cons (ev_item (ev_name rfl rfl rfl (alls_of h3)) (ev_name rfl rfl rfl rfl) (fun _ _ => rfl) (gi_list (names_get o1) (by omega))) es_nil rfl) (cal_len_list (Nat.lt_of_le_of_lt (nm_len folder o1) (by decide))) rfl rfl)) ep_none (by decide)
      (sl _ (Nat.le_trans (nm_len p hp6) (by decide))) pick_len) (ev_item (ev_name rfl rfl rfl (alls_of h3)) (ev_name rfl rfl rfl rfl) (fun _ _ => rfl) (gi_list (names_get o1) (by omega))) (by rw [← q4]; exact op_eq_data q1 q2 q3 (by show c.un + 3 + 64 < cLine; omega)) rfl)) ?_ ?_
    · intro hun
      rw [if_pos hun] at hR
      refine ss_if (b := kind == 3) (evts (et_cmp (ev_name rfl rfl rfl rfl) ev_int (op_eqN kind 3) rfl)) ?_ ?_
      · intro e
        have e := beq_iff_eq.mp e
        rw [if_pos e] at hR
        refine ss_assign (.inl ⟨rfl, rfl⟩) (evs (ev_meth_list (ev_name rfl rfl rfl (dats_of h3)) gm_index (es_cons (ev_slice_list (xs := nmD folder) (ys := (nmD folder).take ((nmD folder).length - 1)) (lo := none) (hi := some (-1)) (stp := none)
          (ev_item (ev_name rfl rfl rfl (dats_of h3)) (ev_name rfl rfl rfl rfl) (fun _ _ => rfl) (gi_list (names_get o1) (by omega))) ep_none (ep_some (ev_neg ev_int)) ep_none (by decide) (sl _ (Nat.le_trans (nm_len folder o1) (by decide))) pick_but) es_nil rfl) (index_par hu folder o1) rfl rfl rfl)) rfl ?_
        exact ss_nil (ss_nil <| ss_nil ⟨h1, h2, h3, par folder, t, par_lt _, rfl, h5, hR⟩)
      · intro e
        have e := beq_eq_false_iff_ne.mp e
        rw [if_neg e] at hR
        refine ss_if (b := kind == 2) (evts (et_cmp (ev_name rfl rfl rfl rfl) ev_int (op_eqN kind 2) rfl)) ?_ ?_
        · intro e2
          have e2 := beq_iff_eq.mp e2
          rw [if_pos e2] at hR
          refine ss_assign (.inl ⟨rfl, rfl⟩) (evs (ev_bin (ev_bin (ev_name rfl rfl rfl (dats_of h5)) (ev_bin (ev_name rfl rfl rfl rfl) (ev_bin ev_int (ev_name rfl rfl rfl (dats_of h2)) (op_powN 2 bit (by decide) (by omega))) (op_divN mask (2 ^ bit) hbn hbs)) (op_addN t _)) ev_int (op_modN _ 2 (by decide)))) rfl ?_
          exact ss_nil (ss_nil (ss_nil <| ss_nil ⟨h1, h2, h3, p, _, hp6, h4, rfl, hR⟩))
        · intro e2
          have e2 := beq_eq_false_iff_ne.mp e2
          rw [if_neg e2] at hR
          refine ss_if (b := mask / 2 ^ bit % 2 == kind) (evts (et_cmp (ev_bin (ev_bin (ev_name rfl rfl rfl rfl) (ev_bin ev_int (ev_name rfl rfl rfl (alls_of h2)) (op_powN 2 bit (by decide) (by omega))) (op_divN mask (2 ^ bit) hbn hbs)) ev_int (op_modN _ 2 (by decide))) (ev_name rfl rfl rfl rfl) (op_eqN _ kind) rfl)) ?_ ?_
          · intro e3
            have e3 := beq_iff_eq.mp e3
            rw [if_pos e3] at hR
            subst hR
            exact ss_return (evs (ev_bin (ev_bin (ev_name rfl rfl rfl rfl) (ev_name rfl rfl rfl (dats_of h5)) (op_addN kind t)) ev_int (op_modN _ 2 (by decide)))) rfl
          · intro e3
            have e3 := beq_eq_false_iff_ne.mp e3
            rw [if_neg e3] at hR
            exact ss_nil (ss_nil (ss_nil (ss_nil <| ss_nil ⟨h1, h2, h3, p, t, hp6, h4, h5, hR⟩)))
    · intro hun
      rw [if_neg (by rw [hun]; decide)] at hR
      exact ss_nil (ss_nil ⟨h1, h2, h3, p, t, hp6, h4, h5, hR⟩)
  · rintro ρ' ⟨h1, h2, h3, p, t, hp6, h4, h5, hR⟩
    rw [List.length_map, List.drop_length] at hR
    have hR : (firsts.getD p 0 / 2 ^ bit + t) % 2 = rightR firsts bit deeds.reverse place 0 := hR
    rw [← hR]
    refine ss_nil ?_
    exact ss_return (evs (ev_bin (ev_bin (ev_bin (ev_item (ev_name rfl rfl rfl (dats_of h1)) (ev_name rfl rfl rfl (dats_of h4)) (fun _ _ => rfl) (gi_list (intsD_get (getD_of (by rw [hl]; exact hp6))) (by omega))) (ev_bin ev_int (ev_name rfl rfl rfl (dats_of h2)) (op_powN 2 bit (by decide) (by omega))) (op_divN _ (2 ^ bit) hbn hbs)) (ev_name rfl rfl rfl (dats_of h5)) (op_addN _ t)) ev_int (op_modN _ 2 (by decide)))) rfl
end Mine
end

-- C12
section
open PySem PySem.W PyProof.Rows PySem.W.X PySem.Calls PySem.Spec PySem.SeqAt
set_option Elab.async false
set_option maxRecDepth 100000
set_option maxHeartbeats 0
set_option linter.unusedVariables false
namespace Mine
theorem filled13 : PySem.Challenge.rw_in0208_01 = PySem.Challenge.rw_in0208_01 ∧ hd.heap_39 = hd.heap_39 := by k_fill; exact ⟨rfl, rfl⟩
-- tb_start: the sides of «cal_def»
local macro_rules | `(tactic| tb_start) => `(tactic| ((case ho => k_dflt k_is); (case hcd => k_dflt k_is); (case hbind => first | exact bt1 fun _ => rfl | exact bt2 fun _ _ => rfl | exact bt3 fun _ _ _ => rfl | exact bt4 fun _ _ _ _ => rfl | exact bt0 rfl); (case hkind => exact fun _ => rfl); (case hco => exact rfl); (case hgen => exact rfl); (case hk => exact rfl)))
def pairD (p : Nat × Str) : PD := .tuple [.int p.1, .str p.2]
def rowD (r : List (Nat × Str)) : PD := .tuple (r.map pairD)
theorem rd_tup {w : World} {D : Ad} {h : Heap} {a : Addr} {vs : Array Value} {ds : List PD} (X : (hd.heap_39 w.params).In h) (kd : KD w D) (lk : (hd.heap_39 w.params).lookup a = some ⟨.type "tuple", none, .seq vs 0, #[]⟩) (r : RdAll D h vs.toList ds) : Rd D h (.ref a) (.tuple ds) :=
  .tuple (kd _ _ lk) (X _ _ lk) r
theorem rd_table {w : World} {D : Ad} {h : Heap} (X : (hd.heap_39 w.params).In h) (kd : KD w D) (hT : ∀ t x, D.T t x) : Rd D h (.ref 117) (.tuple (TABLE.map rowD)) := by
  exact rd_tup X kd (vs := #[.ref 92, .ref 94, .ref 96, .ref 100, .ref 102, .ref 104, .ref 108, .ref 110, .ref 112, .ref 116]) (by k_is) (.cons
    (rd_tup X kd (vs := #[.ref 85, .ref 86, .ref 87, .ref 88, .ref 89, .ref 90, .ref 91]) (by k_is) (.cons (rd_tup X kd (vs := #[.int 40960 220, .str (Str.ofString "l") 297]) (by k_is) (.cons (.int _ _) (.cons (.str _ _ (hT _ _)) .nil))) (.cons (rd_tup X kd (vs := #[.int 49152 222, .str (Str.ofString "s") 298]) (by k_is) (.cons (.int _ _) (.cons (.str _ _ (hT _ _)) .nil))) (.cons (rd_tup X kd (vs := #[.int 32768 216, .str (Str.ofString "-") 299]) (by k_is) (.cons (.int _ _) (.cons (.str _ _ (hT _ _)) .nil))) (.cons (rd_tup X kd (vs := #[.int 24576 214, .str (Str.ofString "b") 300]) (by k_is) (.cons (.int _ _) (.cons (.str _ _ (hT _ _)) .nil))) (.cons (rd_tup X kd (vs := #[.int 16384 210, .str (Str.ofString "d") 301]) (by k_is) (.cons (.int _ _) (.cons (.str _ _ (hT _ _)) .nil))) (.cons (rd_tup X kd (vs := #[.int 8192 212, .str (Str.ofString "c") 302]) (by k_is) (.cons (.int _ _) (.cons (.str _ _ (hT _ _)) .nil))) (.cons (rd_tup X kd (vs := #[.int 4096 218, .str (Str.ofString "p") 303]) (by k_is) (.cons (.int _ _) (.cons (.str _ _ (hT _ _)) .nil))) (.nil)))))))))
    (.cons
    (rd_tup X kd (vs := #[.ref 93]) (by k_is) (.cons (rd_tup X kd (vs := #[.int 256 279, .str (Str.ofString "r") 304]) (by k_is) (.cons (.int _ _) (.cons (.str _ _ (hT _ _)) .nil))) (.nil)))
    (.cons
    (rd_tup X kd (vs := #[.ref 95]) (by k_is) (.cons (rd_tup X kd (vs := #[.int 128 281, .str (Str.ofString "w") 305]) (by k_is) (.cons (.int _ _) (.cons (.str _ _ (hT _ _)) .nil))) (.nil)))
    (.cons
    (rd_tup X kd (vs := #[.ref 97, .ref 98, .ref 99]) (by k_is) (.cons (rd_tup X kd (vs := #[.int 2112 306, .str (Str.ofString "s") 307]) (by k_is) (.cons (.int _ _) (.cons (.str _ _ (hT _ _)) .nil))) (.cons (rd_tup X kd (vs := #[.int 2048 273, .str (Str.ofString "S") 308]) (by k_is) (.cons (.int _ _) (.cons (.str _ _ (hT _ _)) .nil))) (.cons (rd_tup X kd (vs := #[.int 64 283, .str (Str.ofString "x") 309]) (by k_is) (.cons (.int _ _) (.cons (.str _ _ (hT _ _)) .nil))) (.nil)))))
    (.cons
    (rd_tup X kd (vs := #[.ref 101]) (by k_is) (.cons (rd_tup X kd (vs := #[.int 32 285, .str (Str.ofString "r") 310]) (by k_is) (.cons (.int _ _) (.cons (.str _ _ (hT _ _)) .nil))) (.nil)))
    (.cons
    (rd_tup X kd (vs := #[.ref 103]) (by k_is) (.cons (rd_tup X kd (vs := #[.int 16 287, .str (Str.ofString "w") 311]) (by k_is) (.cons (.int _ _) (.cons (.str _ _ (hT _ _)) .nil))) (.nil)))
    (.cons
    (rd_tup X kd (vs := #[.ref 105, .ref 106, .ref 107]) (by k_is) (.cons (rd_tup X kd (vs := #[.int 1032 312, .str (Str.ofString "s") 313]) (by k_is) (.cons (.int _ _) (.cons (.str _ _ (hT _ _)) .nil))) (.cons (rd_tup X kd (vs := #[.int 1024 275, .str (Str.ofString "S") 314]) (by k_is) (.cons (.int _ _) (.cons (.str _ _ (hT _ _)) .nil))) (.cons (rd_tup X kd (vs := #[.int 8 289, .str (Str.ofString "x") 315]) (by k_is) (.cons (.int _ _) (.cons (.str _ _ (hT _ _)) .nil))) (.nil)))))
    (.cons
    (rd_tup X kd (vs := #[.ref 109]) (by k_is) (.cons (rd_tup X kd (vs := #[.int 4 291, .str (Str.ofString "r") 316]) (by k_is) (.cons (.int _ _) (.cons (.str _ _ (hT _ _)) .nil))) (.nil)))
    (.cons
    (rd_tup X kd (vs := #[.ref 111]) (by k_is) (.cons (rd_tup X kd (vs := #[.int 2 293, .str (Str.ofString "w") 317]) (by k_is) (.cons (.int _ _) (.cons (.str _ _ (hT _ _)) .nil))) (.nil)))
    (.cons
    (rd_tup X kd (vs := #[.ref 113, .ref 114, .ref 115]) (by k_is) (.cons (rd_tup X kd (vs := #[.int 513 318, .str (Str.ofString "t") 319]) (by k_is) (.cons (.int _ _) (.cons (.str _ _ (hT _ _)) .nil))) (.cons (rd_tup X kd (vs := #[.int 512 277, .str (Str.ofString "T") 320]) (by k_is) (.cons (.int _ _) (.cons (.str _ _ (hT _ _)) .nil))) (.cons (rd_tup X kd (vs := #[.int 1 295, .str (Str.ofString "x") 321]) (by k_is) (.cons (.int _ _) (.cons (.str _ _ (hT _ _)) .nil))) (.nil)))))
    (.nil)))))))))))

theorem ev_table {c : Cx} {ρ : Str → Option PD} {e : Expr} (hst : c.st = false) (h : EvV c e (.ref 117)) : EvE c ρ e (.tuple (TABLE.map rowD)) := fun A D s a Q E k => h A s Q E a.hs.kt (k _ s.heap s.toks D (Aft.refl _ _) (rd_table a.hs.kt.1 a.hs.kd (a.hs.tk.2 hst)))
theorem c_filemode {c : Cx} (hr : Rm c 4) (hst : c.st = false) (m : Nat) : Cal c (.ref 124) [.int m] (.str (Txt.join "" (signsF m))) := by
  refine' cal_def (xs := ["mode"]) ?ho ?hcd hr.lim rfl ?hbind ?hkind ?hco ?hgen ?hk ?_; tb_start
  intro L base
  refine ss_own (.inl ⟨rfl, rfl⟩) rfl fun a ha => ?_
  refine ss_for (ds := enumD (TABLE.map rowD)) (ei_enum_tuple (ev_boot ⟨rfl, rfl, rfl⟩ rfl (by k_is) (by boot_by_name) (by decide) rfl) (ev_table hst (ev_top ⟨rfl, rfl, rfl⟩ rfl (by k_is) rfl)) rfl)
    (fun i ρ' => ρ' "mode" = some (.dat (.int m)) ∧ ρ' "perm" = some (.own a (((signsF m).take i).map .str)) ∧ ∀ y ys, ρ' y = some (.own a ys) → y = "perm") ⟨rfl, rfl, fun y ys q => ?_⟩ ?_ ?_ (fun _ => rfl)
  · by_cases z : y = "perm"
    · exact z
    · simp only [upd, if_neg z] at q; exact absurd q (ha y ys)
  · rintro i d' ρ' hd' ⟨h1, h2, h3⟩
    obtain ⟨d, hd₀, rfl⟩ := enumD_get hd'
    rw [List.getElem?_map] at hd₀
    obtain ⟨row, hrow, rfl⟩ := Option.map_eq_some_iff.mp hd₀
    have hi10 : i < 10 := (List.getElem?_eq_some_iff.mp hrow).1
    have hs := signsF_get (m := m) hrow
    have hnext : (signsF m).take (i + 1) = (signsF m).take i ++ [sgn m i row] := by rw [List.take_add_one, hs]; rfl
    have hsz : (((signsF m).take i).map PyData.str).length ≤ sizeLine := by
      rw [List.length_map, List.length_take]
      exact Nat.le_trans (Nat.min_le_left _ _) (Nat.le_trans (Nat.le_of_lt hi10) (by decide))
    refine ⟨_, asg_tuple (asgs_cons (asg_name (.inl ⟨rfl, rfl⟩)) (asgs_cons (asg_name (.inl ⟨rfl, rfl⟩)) asgs_nil rfl) rfl) rfl rfl, ?_⟩
    refine ss_for (ds := row.map pairD) (EvI0.evI (ei_tuple (ev_name rfl rfl rfl rfl)) (.inr ⟨_, _, _, rfl⟩))
      (fun j ρ'' => ρ'' "mode" = some (.dat (.int m)) ∧ ρ'' "perm" = some (.own a (((signsF m).take i).map .str)) ∧ (∀ y ys, ρ'' y = some (.own a ys) → y = "perm") ∧ ρ'' "index" = some (.dat (.int i)) ∧ ∀ (k : Nat) p, k < j → row[k]? = some p → tst m i p = false)
      ⟨h1, h2, fun y ys q => ?_, rfl, fun k p h => absurd h (Nat.not_lt_zero _)⟩ ?_ ?_ (fun _ => rfl)
    · by_cases z : y = "table"
      · simp only [upd, if_pos z] at q; cases q
      simp only [upd, if_neg z] at q
      by_cases z : y = "index"
      · simp only [if_pos z] at q; cases q
      simp only [if_neg z] at q
      exact h3 y ys q
    · rintro j d₂ ρ₂ hd₂ ⟨e1, e2, e3, e4, e5⟩
      rw [List.getElem?_map] at hd₂
      obtain ⟨⟨bit, ch⟩, hp, rfl⟩ := Option.map_eq_some_iff.mp hd₂
      refine ⟨_, asg_tuple (asgs_cons (asg_name (.inl ⟨rfl, rfl⟩)) (asgs_cons (asg_name (.inl ⟨rfl, rfl⟩)) asgs_nil rfl) rfl) rfl rfl, ?_⟩
      have un : ∀ y ys, upd (upd ρ₂ "bit" (.dat (.int bit))) "char" (.dat (.str ch)) y = some (.own a ys) → y = "perm" := fun y ys q => by
        by_cases z : y = "char"
        · simp only [upd, if_pos z] at q; cases q
        simp only [upd, if_neg z] at q
        by_cases z : y = "bit"
        · simp only [if_pos z] at q; cases q
        simp only [if_neg z] at q
        exact e3 y ys q
      have hit : tst m i (bit, ch) = true → (signsF m).take (i + 1) = (signsF m).take i ++ [ch] := fun q => by
        rw [hnext]
        unfold sgn
        rw [find_hit hp q (fun k p h => e5 k p h)]
      have miss : tst m i (bit, ch) = false → ∀ (k : Nat) p, k < j + 1 → row[k]? = some p → tst m i p = false := fun q k p hk hp' => by
        rcases Nat.lt_succ_iff_lt_or_eq.mp hk with h | rfl
        · exact e5 k p h hp'
        · rw [hp] at hp'; cases hp'; exact q
      have un2 : ∀ xs y ys, upd (upd (upd ρ₂ "bit" (.dat (.int bit))) "char" (.dat (.str ch))) "perm" (.own a xs) y = some (.own a ys) → y = "perm" := fun xs y ys q => by
        by_cases z : y = "perm"
        · exact z
        · simp only [upd, if_neg z] at q
          exact un y ys q
      have tk : ((signsF m).take i).map PyData.str ++ [PyData.str ch] = ((signsF m).take i ++ [ch]).map PyData.str := by rw [List.map_append]; rfl
      refine ss_if (b := i == 0) (evts (et_cmp (ev_name rfl rfl rfl (alls_of e4)) ev_int (op_eqN i 0) rfl)) ?_ ?_
      · intro q0
        have q0 : i = 0 := beq_iff_eq.mp q0
        have tt : tst m i (bit, ch) = ((m &&& 61440) == bit) := by unfold tst; rw [if_pos q0]
        refine ss_if (b := (m &&& 61440) == bit) (evts (et_cmp (ev_call_def (ev_top ⟨rfl, rfl, rfl⟩ rfl (by k_is) rfl) (by k_is) (es_cons (ev_name rfl rfl rfl (alls_of e1)) es_nil rfl) (c_ifmtN (hr.down.less (by decide)) m) (st1 rfl)) (ev_name rfl rfl rfl rfl) (op_eqN _ bit) rfl)) ?_ ?_
        · intro q
          refine ss_append rfl rfl rfl e2 un hsz (evs (ev_name rfl rfl rfl rfl)) rfl rfl ?_
          refine ss_break ?_
          refine ss_nil ⟨e1, ?_, un2 _⟩
          rw [hit (tt.trans q), ← tk]
          rfl
        · intro q
          exact ss_nil (ss_nil (ss_nil ⟨e1, e2, un, e4, miss (tt.trans q)⟩))
      · intro q0
        have q0 : i ≠ 0 := fun h => by rw [h] at q0; cases q0
        have tt : tst m i (bit, ch) = ((m &&& bit) == bit) := by unfold tst; rw [if_neg q0]
        refine ss_if (b := (m &&& bit) == bit) (evts (et_cmp (ev_bin (ev_name rfl rfl rfl (alls_of e1)) (ev_name rfl rfl rfl rfl) (op_andN m bit)) (ev_name rfl rfl rfl rfl) (op_eqN _ bit) rfl)) ?_ ?_
        · intro q
          refine ss_append rfl rfl rfl e2 un hsz (evs (ev_name rfl rfl rfl rfl)) rfl rfl ?_
          refine ss_break ?_
          refine ss_nil ⟨e1, ?_, un2 _⟩
          rw [hit (tt.trans q), ← tk]
          rfl
        · intro q
          exact ss_nil (ss_nil (ss_nil ⟨e1, e2, un, e4, miss (tt.trans q)⟩))
    · rintro ρ₂ ⟨e1, e2, e3, e4, e5⟩
      rw [List.length_map] at e5
      have hm : ∀ ch, (if i = 0 then Str.ofString "?" else Str.ofString "-") = ch → (signsF m).take (i + 1) = (signsF m).take i ++ [ch] := fun ch q => by
        rw [hnext]
        unfold sgn
        rw [find_miss (fun k p h => e5 k p h)]
        rw [← q]
      have un2 : ∀ xs y ys, upd ρ₂ "perm" (.own a xs) y = some (.own a ys) → y = "perm" := fun xs y ys q => by
        by_cases z : y = "perm"
        · exact z
        · simp only [upd, if_neg z] at q
          exact e3 y ys q
      have tk : ∀ ch, ((signsF m).take i).map PyData.str ++ [PyData.str ch] = ((signsF m).take i ++ [ch]).map PyData.str := fun ch => by rw [List.map_append]; rfl
      refine ss_if (b := i == 0) (evts (et_cmp (ev_name rfl rfl rfl (alls_of e4)) ev_int (op_eqN i 0) rfl)) ?_ ?_
      · intro q0
        have q0 : i = 0 := beq_iff_eq.mp q0
        refine ss_append rfl rfl rfl e2 e3 hsz (evs ev_str) rfl rfl ?_
        refine ss_nil (ss_nil (ss_nil ⟨e1, ?_, un2 _⟩))
        rw [hm "?" (if_pos q0), ← tk]
        rfl
      · intro q0
        have q0 : i ≠ 0 := fun h => by rw [h] at q0; cases q0
        refine ss_append rfl rfl rfl e2 e3 hsz (evs ev_str) rfl rfl ?_
        refine ss_nil (ss_nil (ss_nil ⟨e1, ?_, un2 _⟩))
        rw [hm "-" (if_neg q0), ← tk]
        rfl
  · rintro ρ' ⟨h1, h2, h3⟩
    rw [enumD_len, List.length_map] at h2
    have h2 : ρ' "perm" = some (.own a ((signsF m).map .str)) := by
      rw [h2, List.take_of_length_le (by rw [signsF_len]; decide)]
    refine ss_nil ?_
    exact ss_return (evs2 (ev_meth ev_str gm_join (es_cons (ev_name rfl rfl rfl (alls_own h2)) es_nil rfl) (cal_join (ys := signsF m) (signsF_sum m)) rfl rfl rfl) rfl) ⟨⟨_, rfl⟩, rfl⟩
end Mine
end

-- R2
section
open PySem PySem.W PyProof.Rows PySem.W.X PySem.Calls PySem.Spec PySem.SeqAt
set_option Elab.async false
set_option maxRecDepth 100000
set_option linter.unusedVariables false
namespace Mine
section
variable {c : Cx} {ρ : Str → Option PD}
theorem cal_sumN {ns : List Nat} : Cal c (.builtin "sum") [.list (ns.map fun n : Nat => PyData.int (n : Int))] (.int (ns.sum : Nat)) := by
  intro A D s vs ok hs r Q E k
  cases r with
  | cons r rs =>
    cases rs
    cases r with
    | list da o r =>
      rename_i ax its n
      have hne : ax ≠ s.heap.objs.size := Nat.ne_of_lt (Heap.lt_size o)
      have hsz : its.size = ns.length := by have := r.length; simpa using this
      have W := (Walks.list (prog := P0) (w := c.w) (A := A.in1) ok.h s.heap.objs.size ax hne its).toS
      rw [hsz] at W
      refine mono_of (call_sum_walkAnyS (wpAny_pyIter_list (items := its) ⟨_, o, rfl, n, rfl⟩ ?_))
      refine ⟨s.heap.objs.size, _, _, _, _, _, _, fun i => ((ns.map Int.ofNat).getD i 0), rfl, W, ⟨⟨_, Heap.get?_push_size _ rfl, rfl, rfl⟩, ⟨_, Heap.get?_push_of_some _ o, rfl, n, rfl⟩⟩, fun b hb => ?_, fun i v hP => ?_, fun s' t' hm => ?_⟩
      · rcases List.mem_cons.mp hb with rfl | hb
        · exact Heap.lt_size (Heap.get?_push_size _ rfl)
        · obtain rfl := List.mem_singleton.mp hb
          exact Heap.lt_size (Heap.get?_push_of_some _ o)
      · rw [← Array.getElem?_toList] at hP
        obtain ⟨d, hd, rd⟩ := r.get' hP
        rw [List.getElem?_map] at hd
        obtain ⟨x, hx, rfl⟩ := Option.map_eq_some_iff.mp hd
        cases rd with
        | int _ t =>
          refine ⟨t, ?_⟩
          dsimp only
          rw [List.getD_eq_getElem?_getD, List.getElem?_map, hx]
          rfl
      · obtain ⟨h', g', d', tk', os'⟩ := s'
        have e1 : g' = s.gens := hm.gens
        have e2 : d' = s.drawn := hm.drawn
        have e3 : os' = s.os := hm.os
        subst e1 e2 e3
        intro mo
        have g : Grown s.heap h' := fun b o e => hm.heap b o (fun hb => absurd (Heap.lt_size e) ((List.mem_singleton.mp hb) ▸ Nat.lt_irrefl _)) (Heap.get?_push_of_some _ e)
        refine k _ h' tk' D (Aft.of_grown g mo) ?_
        have : preSum (fun i => (ns.map Int.ofNat).getD i 0) ns.length = ((ns.sum : Nat) : Int) := by
          rw [preSum_getD, List.take_of_length_le (by simp)]
          clear W hsz k r o da hm g mo
          induction ns with
          | nil => rfl
          | cons x xs ih => rw [List.map_cons, List.sum_cons, List.sum_cons, ih]; rfl
        rw [this]
        exact .int _ _
/-- str of a list of bools -/
theorem depth_bools : ∀ bs : List Bool, (PyData.list (bs.map .bool)).depth ≤ 2 := by
  have : ∀ bs : List Bool, PyData.depthAll (bs.map .bool) ≤ 1 := by
    intro bs
    induction bs with
    | nil => simp [PyData.depthAll]
    | cons b bs ih => simp only [List.map_cons, PyData.depthAll, PyData.depth]; omega
  intro bs
  have := this bs
  simp only [PyData.depth]
  omega
theorem cal_str_bools (hst : c.st = false) (hu : c.un + 70 < cLine) {bs : List Bool} (hsz : (PyData.shown (.list (bs.map .bool))).length ≤ sizeLine) : Cal c (.type "str") [.list (bs.map .bool)] (.str (PyData.shown (.list (bs.map .bool)))) := by
  intro A D s vs ok hs r Q E k
  cases r with
  | cons r rs =>
    cases rs
    obtain ⟨_, rr⟩ := r.reads
    cases r with
    | list da o r =>
      have hu' := ok.u
      have hd := depth_bools bs
      refine mono_of (str_of_reads rr (by simp only [PyData.showable]; exact PyData.showableAll_bools _) (fun h => ?_) ok.g (by omega) (fun _ _ e => e) (fun h' u tk hk mo => ?_) hsz)
      · exfalso
        have : ∀ bs : List Bool, (PyData.list (bs.map .bool)).hasDict = false := by
          intro bs
          induction bs with
          | nil => rfl
          | cons b bs ih => simpa [PyData.hasDict, PyData.hasDictAll] using ih
        rw [this] at h; cases h
      · exact k _ h' tk D (Aft.of_grown hk mo) (.str _ _ (hs.tk.2 hst _ _))
/-- from a run that lets the tokens go -/
theorem Cal.loose {f : Value} {ds : List PD} {d : PD} (h : Cal { c with st := false } f ds d) (hd : flat d = true) (hn : ∀ x, d ≠ .str x) : Cal c f ds d := by
  intro A D s vs ok hs r Q E k
  refine h A ⟨D.p, fun _ _ => True, D.n⟩ s vs ok ⟨hs.kt, hs.kd, hs.dl, fun e => (nomatch e), fun _ _ _ => trivial⟩ (RdAll.keep (D := D) (D' := ⟨D.p, fun _ _ => True, D.n⟩) (fun _ _ q e => ⟨q, e⟩) (fun _ _ _ => trivial) r) _ _ fun v h' tk' D' a r' => ?_
  refine k v h' tk' D (Aft.of_grown a.grown a.mono) ?_
  cases r' with
  | none => exact .none
  | bool b => exact .bool b
  | int i t => exact .int i t
  | str x t q => exact absurd rfl (hn x)
  | list => cases hd
  | tuple => cases hd
end
end Mine
end

-- C13
section
open PySem PySem.W PyProof.Rows PySem.W.X PySem.Calls PySem.Spec PySem.SeqAt
set_option Elab.async false
set_option maxRecDepth 100000
set_option maxHeartbeats 0
set_option linter.unusedVariables false
namespace Mine
theorem filled14 : PySem.Challenge.rw_in0208_01 = PySem.Challenge.rw_in0208_01 ∧ hd.heap_39 = hd.heap_39 := by k_fill; exact ⟨rfl, rfl⟩
-- tb_start: the sides of «cal_def»
local macro_rules | `(tactic| tb_start) => `(tactic| ((case ho => k_dflt k_is); (case hcd => k_dflt k_is); (case hbind => first | exact bt1 fun _ => rfl | exact bt2 fun _ _ => rfl | exact bt3 fun _ _ _ => rfl | exact bt4 fun _ _ _ _ => rfl | exact bt0 rfl); (case hkind => exact fun _ => rfl); (case hco => exact rfl); (case hgen => exact rfl); (case hk => exact rfl)))
theorem gi_two {c : Cx} {x : Str} {k : Nat} (h : k < x.length) (hk : k < 2 ^ 62) : GetI c (.str x) (.int k) (.str (two x k)) := by
  refine gi_str ?_ ?_
  · unfold seqIndex?
    have h0 : ¬ ((k : Int) < 0) := by omega
    simp only [h0, if_false]
    rw [if_pos (by simp only [Bool.and_eq_true, decide_eq_true_eq]; omega)]
    rw [Option.bind_some, Int.toNat_natCast]
    have hs : k < x.cps.size := h
    rw [Array.getElem?_eq_getElem hs]
    simp [Array.getD, hs]
  · rw [decide_eq_false (by omega), decide_eq_false (by omega)]; rfl
def bitsD (b : Nat → Nat) : List PD := intsD ((List.range 12).map b)
theorem bitsD_get {b : Nat → Nat} {j : Nat} (h : j < 12) : (bitsD b)[j]? = some (.int (b j : Nat)) := by
  unfold bitsD
  refine intsD_get ?_
  rw [List.getElem?_map, List.getElem?_range h]; rfl
def srD (q : Nat × Str × Str) : PD := .tuple [.int q.1, .tuple [.str q.2.1, .str q.2.2]]
theorem sr_ok : ∀ q ∈ SR, q.1 + 2 < 12 ∧ 9 + q.1 / 3 < 12 ∧ q.2.1.length = 2 ∧ q.2.2.length = 2 := by decide
theorem lst_pick {v : Nat} {x y : Str} (h : v < 2) : ([PyData.str x, .str y])[v]? = some (.str (lst v x y)) := by
  match v, h with
  | 0, _ => rfl
  | 1, _ => rfl
theorem lst_len {v : Nat} {x y : Str} (hx : x.length = 2) (hy : y.length = 2) : (lst v x y).length = 2 := by unfold lst; split <;> assumption
theorem textS_len (k : Nat) (b : Nat → Nat) {i : Nat} (h : i < 3) : (textS k b i).length ≤ 7 := by
  match i, h with
  | 0, _ => exact Nat.le_of_ble_eq_true rfl
  | 1, _ => exact Nat.le_of_ble_eq_true rfl
  | 2, _ => exact Nat.le_of_ble_eq_true rfl
theorem textS_next (k : Nat) (b : Nat → Nat) {i : Nat} {q : Nat × Str × Str} (h : SR[i]? = some q) : textS k b (i + 1) = textS k b i ++ part b q := by
  unfold textS
  rw [List.take_add_one, h, List.foldl_append]
  rfl
theorem c_law_signs {c : Cx} (hr : Rm c 2) (k : Nat) (hk : k < 16) (b : Nat → Nat) (hb : ∀ i, b i < 2) : Cal c (.ref 314) [.int k, .list (bitsD b)] (.str (textS k b 3)) := by
  refine' cal_def (xs := ["kind", "rights"]) ?ho ?hcd hr.lim rfl ?hbind ?hkind ?hco ?hgen ?hk ?_; tb_start
  intro L base
  have sl : ∀ n : Nat, n ≤ 1000 → n ≤ sizeLine := fun n h => Nat.le_trans h (by decide)
  have l0 : KS.length = 16 := by decide +kernel
  have l1 : (Str.ofString "-r").length = 2 := by decide +kernel
  have l2 : (Str.ofString "-w").length = 2 := by decide +kernel
  refine ss_assign (d := .str (two KS k)) (.inl ⟨rfl, rfl⟩) (evs (ev_item (i := .int k) ev_str (ev_name rfl rfl rfl rfl) (fun _ _ => rfl) (gi_two (x := KS) (by rw [l0]; exact hk) (by omega)))) rfl ?_
  refine @ss_for _ _ _ _ _ _ _ _ _ _ _ (SR.map srD) ?I
    (fun i ρ' => ρ' "rights" = some (.dat (.list (bitsD b))) ∧ ρ' "text" = some (.dat (.str (textS k b i)))) ⟨rfl, rfl⟩ ?_ ?_ (fun _ => rfl)
  case I =>
    refine EvI0.evI ?I ?g
    case g => exact .inr ⟨_, _, _, rfl⟩
    refine @ei_tuple _ _ _ _ ?_
    refine @ev_tuple _ _ _ _ _ [.tuple [.int 6, .tuple [.str "-x", .str "Ss"]], .tuple [.int 3, .tuple [.str "-x", .str "Ss"]], .tuple [.int 0, .tuple [.str "-x", .str "Tt"]]] ?_ (sl 3 (by decide))
    refine @es_cons _ _ _ _ _ _ (@ev_tuple _ _ _ _ _ _ (@es_cons _ _ _ _ _ _ ev_int (@es_cons _ _ _ _ _ _ (@ev_tuple _ _ _ _ _ _ (@es_cons _ _ _ _ _ _ ev_str (@es_cons _ _ _ _ _ _ ev_str es_nil rfl) rfl) (sl 2 (by decide))) es_nil rfl) rfl) (sl 2 (by decide))) ?_ rfl
    refine @es_cons _ _ _ _ _ _ (@ev_tuple _ _ _ _ _ _ (@es_cons _ _ _ _ _ _ ev_int (@es_cons _ _ _ _ _ _ (@ev_tuple _ _ _ _ _ _ (@es_cons _ _ _ _ _ _ ev_str (@es_cons _ _ _ _ _ _ ev_str es_nil rfl) rfl) (sl 2 (by decide))) es_nil rfl) rfl) (sl 2 (by decide))) ?_ rfl
    exact @es_cons _ _ _ _ _ _ (@ev_tuple _ _ _ _ _ _ (@es_cons _ _ _ _ _ _ ev_int (@es_cons _ _ _ _ _ _ (@ev_tuple _ _ _ _ _ _ (@es_cons _ _ _ _ _ _ ev_str (@es_cons _ _ _ _ _ _ ev_str es_nil rfl) rfl) (sl 2 (by decide))) es_nil rfl) rfl) (sl 2 (by decide))) es_nil rfl
  · rintro i d' ρ' hd' ⟨h1, h2⟩
    rw [List.getElem?_map] at hd'
    obtain ⟨q, hq, rfl⟩ := Option.map_eq_some_iff.mp hd'
    have hi3 : i < 3 := (List.getElem?_eq_some_iff.mp hq).1
    obtain ⟨q1, q2, q3, q4⟩ := sr_ok q (List.mem_of_getElem? hq)
    have hbl : ∀ (x : Str), x.length = 2 → ∀ j, b j < x.length := fun x hx j => by rw [hx]; exact hb j
    have hb62 : ∀ j, b j < 2 ^ 62 := fun j => Nat.lt_of_lt_of_le (hb j) (by decide)
    have hb63 : ∀ j, b j < 2 ^ 63 := fun j => Nat.lt_of_lt_of_le (hb j) (by decide)
    have hpart : part b q = (two "-r" (b (q.1 + 2)) ++ two "-w" (b (q.1 + 1))) ++ two (lst (b (9 + q.1 / 3)) q.2.1 q.2.2) (b q.1) := rfl
    have e3 : (part b q).length = 3 := rfl
    have htl := textS_len k b hi3
    have hnx := textS_next k b hq
    have la : (two "-r" (b (q.1 + 2))).length + (two "-w" (b (q.1 + 1))).length ≤ sizeLine := sl 2 (by decide)
    have lb : (two "-r" (b (q.1 + 2)) ++ two "-w" (b (q.1 + 1))).length + (two (lst (b (9 + q.1 / 3)) q.2.1 q.2.2) (b q.1)).length ≤ sizeLine := sl 3 (by decide)
    refine ⟨_, asg_tuple (asgs_cons (asg_name (.inl ⟨rfl, rfl⟩)) (asgs_cons (asg_name (.inl ⟨rfl, rfl⟩)) asgs_nil rfl) rfl) rfl rfl, ?_⟩
    rw [hpart] at hnx e3
    generalize textS k b i = tx at *
    generalize textS k b (i + 1) = ty at *
    generalize hx1 : two "-r" (b (q.1 + 2)) = x1 at *
    generalize hx2 : two "-w" (b (q.1 + 1)) = x2 at *
    generalize hx3 : two (lst (b (9 + q.1 / 3)) q.2.1 q.2.2) (b q.1) = x3 at *
    refine ss_aug rfl (.inl ⟨rfl, rfl⟩) h2 (evs (ev_bin (a := .str (x1 ++ x2)) (b := .str x3) (ev_bin (a := .str x1) (b := .str x2) ?A ?B (op_add_str la)) ?C (op_add_str lb))) (op_iadd_str (sl _ (by omega))) ?_
    case A =>
      rw [← hx1]
      exact ev_item (a := .str "-r") (i := .int (b (q.1 + 2) : Nat)) ev_str (ev_item (ev_name rfl rfl rfl (dats_of h1)) (ev_bin (ev_name rfl rfl rfl rfl) ev_int (op_addN q.1 2)) (fun _ _ => rfl) (gi_list (bitsD_get (b := b) q1) (by omega))) (fun _ _ => rfl) (gi_two (hbl _ l1 _) (hb62 _))
    case B =>
      rw [← hx2]
      exact ev_item (a := .str "-w") (i := .int (b (q.1 + 1) : Nat)) ev_str (ev_item (ev_name rfl rfl rfl (dats_of h1)) (ev_bin (ev_name rfl rfl rfl rfl) ev_int (op_addN q.1 1)) (fun _ _ => rfl) (gi_list (bitsD_get (b := b) (by omega)) (by omega))) (fun _ _ => rfl) (gi_two (hbl _ l2 _) (hb62 _))
    case C =>
      rw [← hx3]
      exact ev_item (a := .str (lst (b (9 + q.1 / 3)) q.2.1 q.2.2)) (i := .int (b q.1 : Nat)) (ev_item (ev_name rfl rfl rfl rfl) (ev_item (ev_name rfl rfl rfl (dats_of h1)) (ev_bin ev_int (ev_bin (ev_name rfl rfl rfl rfl) ev_int (op_divN q.1 3 (by decide) (by decide))) (op_addN 9 (q.1 / 3))) (fun _ _ => rfl) (gi_list (bitsD_get (b := b) q2) (by omega))) (fun _ _ => rfl) (gi_tuple (lst_pick (x := q.2.1) (y := q.2.2) (hb _)) (hb63 _)))
          (ev_item (ev_name rfl rfl rfl (dats_of h1)) (ev_name rfl rfl rfl rfl) (fun _ _ => rfl) (gi_list (bitsD_get (b := b) (by omega)) (by omega))) (fun _ _ => rfl) (gi_two (hbl _ (lst_len q3 q4) _) (hb62 _))
    refine ss_nil ⟨h1, ?_⟩
    rw [hnx]
    rfl
  · rintro ρ' ⟨h1, h2⟩
    refine ss_nil ?_
    exact ss_return (evs (ev_name rfl rfl rfl (dats_of h2))) rfl
end Mine
end

-- C13b
section
open PySem PySem.W PyProof.Rows PySem.W.X PySem.Calls PySem.Spec PySem.SeqAt
set_option Elab.async false
set_option maxRecDepth 100000
set_option maxHeartbeats 0
set_option linter.unusedVariables false
namespace Mine
theorem filled15 : PySem.Challenge.rw_in0208_01 = PySem.Challenge.rw_in0208_01 ∧ hd.heap_39 = hd.heap_39 := by k_fill; exact ⟨rfl, rfl⟩
-- tb_start: the sides of «cal_def»
local macro_rules | `(tactic| tb_start) => `(tactic| ((case ho => k_dflt k_is); (case hcd => k_dflt k_is); (case hbind => first | exact bt1 fun _ => rfl | exact bt2 fun _ _ => rfl | exact bt3 fun _ _ _ => rfl | exact bt4 fun _ _ _ _ => rfl | exact bt0 rfl); (case hkind => exact fun _ => rfl); (case hco => exact rfl); (case hgen => exact rfl); (case hk => exact rfl)))
/-- which kind it is -/
def kindsB (k : Nat) : List Bool := [1, 2, 4, 6, 8, 10, 12].map fun j => k == j
theorem is_kN (m j : Nat) {x : Int} (h : x = ((4096 * j : Nat) : Int)) : (Builtin.bitAnd (m : Int) 61440 == x) = (m / 4096 % 16 == j) := by
  subst h
  have : Builtin.bitAnd (m : Int) 61440 = ((m &&& 61440 : Nat) : Int) := by rw [← band_nat]; rfl
  rw [this, beqN, and_high, Bool.eq_iff_iff, beq_iff_eq, beq_iff_eq]
  omega
theorem c_law_kinds {c : Cx} (hr : Rm c 4) (m : Nat) : Cal c (.ref 321) [.int m] (.list ((kindsB (m / 4096 % 16)).map .bool)) := by
  refine' cal_def (xs := ["mode"]) ?ho ?hcd hr.lim rfl ?hbind ?hkind ?hco ?hgen ?hk ?_; tb_start
  intro L base
  have sl : ∀ n : Nat, n ≤ 1000 → n ≤ sizeLine := fun n h => Nat.le_trans h (by decide)
  have rm : ∀ {env : Env}, Rm ⟨c.w, c.dp + 1, c.un + 3, env, c.st⟩ 2 := fun {env} => hr.down.less (by decide)
  refine @ss_return _ _ _ _ _ _ _ _ _ (evs ?_) rfl
  refine @ev_list _ _ _ _ [.bool (m / 4096 % 16 == 1), .bool (m / 4096 % 16 == 2), .bool (m / 4096 % 16 == 4), .bool (m / 4096 % 16 == 6), .bool (m / 4096 % 16 == 8), .bool (m / 4096 % 16 == 10), .bool (m / 4096 % 16 == 12)] ?_ (sl _ (by show 7 ≤ 1000; decide))
  refine @es_cons _ _ _ _ _ _ (ev_call_def (ev_top ⟨rfl, rfl, rfl⟩ rfl (by k_is) rfl) (by k_is) (es_cons (ev_name rfl rfl rfl rfl) es_nil rfl) ((c_S_ISFIFO rm m).cast (congrArg PyData.bool (is_kN m 1 rfl))) (st1 rfl)) ?_ rfl
  refine @es_cons _ _ _ _ _ _ (ev_call_def (ev_top ⟨rfl, rfl, rfl⟩ rfl (by k_is) rfl) (by k_is) (es_cons (ev_name rfl rfl rfl rfl) es_nil rfl) ((c_S_ISCHR rm m).cast (congrArg PyData.bool (is_kN m 2 rfl))) (st1 rfl)) ?_ rfl
  refine @es_cons _ _ _ _ _ _ (ev_call_def (ev_top ⟨rfl, rfl, rfl⟩ rfl (by k_is) rfl) (by k_is) (es_cons (ev_name rfl rfl rfl rfl) es_nil rfl) ((c_S_ISDIR rm m).cast (congrArg PyData.bool (is_kN m 4 rfl))) (st1 rfl)) ?_ rfl
  refine @es_cons _ _ _ _ _ _ (ev_call_def (ev_top ⟨rfl, rfl, rfl⟩ rfl (by k_is) rfl) (by k_is) (es_cons (ev_name rfl rfl rfl rfl) es_nil rfl) ((c_S_ISBLK rm m).cast (congrArg PyData.bool (is_kN m 6 rfl))) (st1 rfl)) ?_ rfl
  refine @es_cons _ _ _ _ _ _ (ev_call_def (ev_top ⟨rfl, rfl, rfl⟩ rfl (by k_is) rfl) (by k_is) (es_cons (ev_name rfl rfl rfl rfl) es_nil rfl) ((c_S_ISREG rm m).cast (congrArg PyData.bool (is_kN m 8 rfl))) (st1 rfl)) ?_ rfl
  refine @es_cons _ _ _ _ _ _ (ev_call_def (ev_top ⟨rfl, rfl, rfl⟩ rfl (by k_is) rfl) (by k_is) (es_cons (ev_name rfl rfl rfl rfl) es_nil rfl) ((c_S_ISLNK rm m).cast (congrArg PyData.bool (is_kN m 10 rfl))) (st1 rfl)) ?_ rfl
  exact @es_cons _ _ _ _ _ _ (ev_call_def (ev_top ⟨rfl, rfl, rfl⟩ rfl (by k_is) rfl) (by k_is) (es_cons (ev_name rfl rfl rfl rfl) es_nil rfl) ((c_S_ISSOCK rm m).cast (congrArg PyData.bool (is_kN m 12 rfl))) (st1 rfl)) es_nil rfl
end Mine
end

-- C14
section
open PySem PySem.W PyProof.Rows PySem.W.X PySem.Calls PySem.Spec PySem.SeqAt
set_option Elab.async false
set_option maxRecDepth 100000
set_option maxHeartbeats 0
set_option linter.unusedVariables false
namespace Mine
theorem filled16 : PySem.Challenge.rw_in0208_01 = PySem.Challenge.rw_in0208_01 ∧ hd.heap_39 = hd.heap_39 := by k_fill; exact ⟨rfl, rfl⟩
-- tb_start: the sides of «cal_def»
local macro_rules | `(tactic| tb_start) => `(tactic| ((case ho => k_dflt k_is); (case hcd => k_dflt k_is); (case hbind => first | exact bt1 fun _ => rfl | exact bt2 fun _ _ => rfl | exact bt3 fun _ _ _ => rfl | exact bt4 fun _ _ _ _ => rfl | exact bt0 rfl); (case hkind => exact fun _ => rfl); (case hco => exact rfl); (case hgen => exact rfl); (case hk => exact rfl)))
theorem EvB.cast {c : Cx} {ρ : Str → Option PD} {op : BoolOp} {es : List Expr} {b b' : Bool} (h : EvB c ρ op es b) (q : b = b') : EvB c ρ op es b' := q ▸ h
def powD : PD → PD
  | .int i => .int ((2 ^ i.toNat : Nat) : Int)
  | d => d
def oneD (m : Nat) : PD → Bool
  | .int i => bt m i.toNat == 1
  | _ => false
theorem worth_list (m : Nat) : ((((List.range 12).map fun (i : Nat) => PyData.int i).filter (oneD m)).map powD) = ((((List.range 12).filter fun k => bt m k == 1).map fun k => 2 ^ k).map fun n : Nat => PyData.int (n : Int)) := by
  rw [List.filter_map, List.map_map, List.map_map]
  congr 1
def isD (k : Nat) : PD → PD
  | .int i => .bool (k == i.toNat)
  | d => d
def onesD : List PD := [.int 1, .int 2, .int 4, .int 6, .int 8, .int 10, .int 12]
theorem kinds_list (k : Nat) : ((onesD.filter fun _ => true).map (isD k)) = (kindsB k).map .bool := rfl
theorem shown_len : ∀ k, k < 16 → (PyData.shown (.list ((kindsB k).map .bool))).length ≤ 1000 := by decide +kernel
theorem ones_ok : ∀ d ∈ onesD, ∃ j : Nat, d = .int j := by
  intro d h
  simp only [onesD, List.mem_cons, List.not_mem_nil, or_false] at h
  rcases h with rfl | rfl | rfl | rfl | rfl | rfl | rfl
  · exact ⟨1, rfl⟩
  · exact ⟨2, rfl⟩
  · exact ⟨4, rfl⟩
  · exact ⟨6, rfl⟩
  · exact ⟨8, rfl⟩
  · exact ⟨10, rfl⟩
  · exact ⟨12, rfl⟩
theorem c_law_as_told0 {c : Cx} (hr : Rm c 10) (hst : c.st = false) (m : Nat) : Cal c (.ref 326) [.int m, .int (m / 4096 % 16 : Nat), .list (bitsD (bt m))] (.bool true) := by
  refine' cal_def (xs := ["mode", "kind", "rights"]) ?ho ?hcd hr.lim rfl ?hbind ?hkind ?hco ?hgen ?hk ?_; tb_start
  intro L base
  have sl : ∀ n : Nat, n ≤ 1000 → n ≤ sizeLine := fun n h => Nat.le_trans h (by decide)
  have rm : ∀ n, n ≤ 9 → ∀ {env : Env}, Rm ⟨c.w, c.dp + 1, c.un + 3, env, c.st⟩ n := fun n h {env} => hr.down.less h
  have hu : c.un + 3 + 70 < cLine := by have := hr.2; exact Nat.lt_of_le_of_lt (by omega : c.un + 3 + 70 ≤ 4200) (by decide)
  have hk16 : m / 4096 % 16 < 16 := Nat.mod_lt _ (by decide)
  have hXY : (Txt.join "" (signsF m) != textS (m / 4096 % 16) (bt m) 3) = false := by rw [text_join, signs_eq]; simp
  have hworth : worthP (bt m) = m % 4096 := worth_bits m
  generalize hkk : m / 4096 % 16 = kk at *
  refine ss_assign (d := .int (worthP (bt m) : Nat)) (.inl ⟨rfl, rfl⟩) (evs ?S) rfl ?_
  case S =>
    refine @ev_call_builtin _ _ _ _ _ _ _ _ _ _ (ev_boot ⟨rfl, rfl, rfl⟩ rfl (by k_is) (by boot_by_name) (by decide) rfl) (@es_cons _ _ _ _ _ _ (EvE.cast (ev_comp (cl := [("rights", L + 2)]) (ds := (List.range 12).map fun (i : Nat) => PyData.int i) powD (oneD m) ⟨rfl, by decide, rfl, by decide, rfl, ⟨rfl, .inl rfl, rfl, trivial⟩⟩
      (ei_range (n := 12) (ev_boot ⟨rfl, rfl, rfl⟩ rfl (by k_is) (by boot_by_name) (by decide) rfl) ev_int (by decide) (by decide) rfl) (sl _ (by decide)) ?ht ?he (fun _ => rfl)) (congrArg PyData.list (worth_list m))) es_nil rfl) cal_sumN rfl rfl
    case ht =>
      intro d C hd
      obtain ⟨j, hj, rfl⟩ := List.mem_map.mp hd
      have hj := List.mem_range.mp hj
      exact ets_one (et_cmp (ev_item (ev_name rfl rfl rfl rfl) (ev_name rfl rfl rfl rfl) (fun _ _ => rfl) (gi_list (bitsD_get (b := bt m) hj) (by omega))) ev_int (op_eqN (bt m j) 1) rfl)
    case he =>
      intro d C hd _
      obtain ⟨j, hj, rfl⟩ := List.mem_map.mp hd
      have hj := List.mem_range.mp hj
      exact ev_bin ev_int (ev_name rfl rfl rfl rfl) (op_powN 2 j (by decide) (by omega))
  rw [hworth]
  refine ss_if (b := false) (evts (et_bool (EvB.cast (eb_or (et_cmp (ev_call_def (ev_top ⟨rfl, rfl, rfl⟩ rfl (by k_is) rfl) (by k_is) (es_cons (ev_name rfl rfl rfl rfl) es_nil rfl) (c_filemode (rm 4 (by decide)) hst m) (st1 rfl))
      (ev_call_def (ev_top ⟨rfl, rfl, rfl⟩ rfl (by k_is) rfl) (by k_is) (es_cons (ev_name rfl rfl rfl rfl) (es_cons (ev_name rfl rfl rfl rfl) es_nil rfl) rfl) (c_law_signs (rm 2 (by decide)) kk hk16 (bt m) (bt_lt m)) (.inr ⟨_, _, rfl, rfl, rfl⟩)) op_ne_str rfl)
    fun _ => eb_or (et_cmp (ev_tuple (es_cons (ev_call_def (ev_top ⟨rfl, rfl, rfl⟩ rfl (by k_is) rfl) (by k_is) (es_cons (ev_name rfl rfl rfl rfl) es_nil rfl) (c_ifmtN (rm 1 (by decide)) m) (st1 rfl)) (es_cons (ev_call_def (ev_top ⟨rfl, rfl, rfl⟩ rfl (by k_is) rfl) (by k_is) (es_cons (ev_name rfl rfl rfl rfl) es_nil rfl) (c_imodeN (rm 1 (by decide)) m) (st1 rfl)) es_nil rfl) rfl) (sl 2 (by decide)))
      (ev_tuple (es_cons (ev_bin ev_int (ev_name rfl rfl rfl rfl) (op_mulN 4096 kk (IntMulOk.of_left (by decide)))) (es_cons (ev_name rfl rfl rfl rfl) es_nil rfl) rfl) (sl 2 (by decide))) (op_ne_data rfl rfl rfl (by show c.un + 3 + 64 < cLine; omega)) rfl) fun _ => eb_or_nil) ?E))) (fun e => by cases e) fun _ => ?_
  case E =>
    rw [hXY, and_high, hkk, and_low]
    simp [PySem.Spec.same, PySem.Spec.sameAll]
  refine ss_nil ?_
  refine @ss_return _ _ _ _ _ _ _ _ _ (evs ?_) rfl
  refine EvE.cast (@ev_cmp _ _ _ _ _ _ _ _ (.bool (PyData.shown (.list ((kindsB kk).map .bool)) == PyData.shown (.list ((kindsB kk).map .bool)))) ?l ?r op_eq_str rfl) (by rw [beq_self_eq_true])
  case l =>
    refine @ev_call_type _ _ _ _ _ _ _ _ _ _ (ev_boot ⟨rfl, rfl, rfl⟩ rfl (by k_is) (by boot_by_name) (by decide) rfl) (@es_cons _ _ _ _ _ _ (ev_call_def (ev_top ⟨rfl, rfl, rfl⟩ rfl (by k_is) rfl) (by k_is) (es_cons (ev_name rfl rfl rfl rfl) es_nil rfl) ((c_law_kinds (rm 4 (by decide)) m).cast (by rw [hkk])) (st1 rfl)) es_nil rfl) (cal_str_bools (c := ⟨c.w, c.dp + 1, c.un + 3, _, c.st⟩) hst hu (sl _ (shown_len kk hk16))) rfl rfl
  case r =>
    refine @ev_call_type _ _ _ _ _ _ _ _ _ _ (ev_boot ⟨rfl, rfl, rfl⟩ rfl (by k_is) (by boot_by_name) (by decide) rfl) (@es_cons _ _ _ _ _ _ (EvE.cast (ev_comp (cl := [("kind", L + 1)]) (ds := onesD) (isD kk) (fun _ => true) ⟨rfl, by decide, rfl, by decide, rfl, ⟨rfl, .inl rfl, rfl, trivial⟩⟩
      ?hi (sl 7 (by decide)) (fun d C _ => ets_nil) ?he (fun _ => rfl)) (congrArg PyData.list (kinds_list kk))) es_nil rfl) (cal_str_bools (c := ⟨c.w, c.dp + 1, c.un + 3, _, c.st⟩) hst hu (sl _ (shown_len kk hk16))) rfl rfl
    case hi =>
      refine @ei_tuple _ _ _ _ ?_
      refine @ev_tuple _ _ _ _ _ [.int 1, .int 2, .int 4, .int 6, .int 8, .int 10, .int 12] ?_ (sl 7 (by decide))
      exact @es_cons _ _ _ _ _ _ ev_int (@es_cons _ _ _ _ _ _ ev_int (@es_cons _ _ _ _ _ _ ev_int (@es_cons _ _ _ _ _ _ ev_int (@es_cons _ _ _ _ _ _ ev_int (@es_cons _ _ _ _ _ _ ev_int (@es_cons _ _ _ _ _ _ ev_int es_nil rfl) rfl) rfl) rfl) rfl) rfl) rfl
    case he =>
      intro d C hd _
      obtain ⟨j, rfl⟩ := ones_ok d hd
      exact ev_cmp (ev_name rfl rfl rfl rfl) (ev_name rfl rfl rfl rfl) (op_eqN kk j) rfl
theorem c_law_as_told {c : Cx} (hr : Rm c 10) (m : Nat) : Cal c (.ref 326) [.int m, .int (m / 4096 % 16 : Nat), .list (bitsD (bt m))] (.bool true) :=
  Cal.loose (c_law_as_told0 (c := { c with st := false }) hr rfl m) rfl fun x h => by cases h
end Mine
end

-- R3
section
open PySem PySem.W PyProof.Rows PySem.W.X PySem.Calls PySem.Spec PySem.SeqAt
set_option Elab.async false
set_option maxRecDepth 100000
set_option maxHeartbeats 0
set_option linter.unusedVariables false
namespace Mine
/-- an expression that gives a new list -/
def EvNew (c : Cx) (ρ : Str → Option PD) (e : Expr) (ds : List PD) : Prop := ∀ A D s, At c A D s ρ → ∀ (Q E : Value → Shared → Prop),
  (∀ a vs n h' tk' D', Aft D s.heap s.toks D' h' tk' → ¬ D'.p a → s.heap.get? a = none → h'.get? a = some ⟨.type "list", none, .seq vs n, #[]⟩ → RdAll D' h' vs.toList ds → Q (.ref a) { s with heap := h', toks := tk' }) → wpAny (model P0 c.w) A (eval e c.env) Q E s
section
variable {c : Cx} {ρ : Str → Option PD}
theorem en_slice {value : Expr} {l u st : Option Expr} {p pos : Pos} {xs ys : List PD} {lo hi stp : Option Int} (h1 : EvE c ρ value (.list xs)) (hl : EvP c ρ l lo) (hu : EvP c ρ u hi) (hst : EvP c ρ st stp) (h0 : stp ≠ some 0) (hsz : xs.length ≤ sizeLine)
    (e : pick xs lo hi stp = ys) : EvNew c ρ (.Subscript value (.Slice l u st p) pos) ys := by
  subst e
  intro A D s a Q E k
  refine Subscript_ ?_
  refine h1 A D s a _ _ fun va h₁ t₁ D₁ a₁ r₁ => ?_
  have A₁ : At c A D₁ { s with heap := h₁, toks := t₁ } ρ := a.aft a₁
  refine wpAny_Slice ?_
  refine hl A D₁ _ A₁ _ _ fun vl h₂ t₂ D₂ _ a₂ pl _ _ => ?_
  have A₂ : At c A D₂ { s with heap := h₂, toks := t₂ } ρ := A₁.aft (s' := { s with heap := h₂, toks := t₂ }) a₂
  refine hu A D₂ _ A₂ _ _ fun vu h₃ t₃ D₃ _ a₃ pu _ _ => ?_
  have A₃ : At c A D₃ { s with heap := h₃, toks := t₃ } ρ := A₂.aft (s' := { s with heap := h₃, toks := t₃ }) a₃
  refine hst A D₃ _ A₃ _ _ fun vs h₄ t₄ D₄ _ a₄ ps _ _ => ?_
  have a14 : Aft D₁ h₁ t₁ D₄ h₄ t₄ := Aft.trans a₂ (Aft.trans a₃ a₄)
  have r₄ := a14.rd r₁
  have A₄ : At c A D₄ { s with heap := h₄, toks := t₄ } ρ := A₃.aft (s' := { s with heap := h₄, toks := t₄ }) a₄
  cases r₄ with
  | list da o r =>
    rename_i ax its n
    have hlst : h₄.IsList ax its := ⟨_, o, rfl, n, rfl⟩
    have sz : its.size = xs.length := by have := r.length; simpa using this
    have fin : wpAny (model P0 c.w) A (getItem (.ref ax) (.ref h₄.objs.size)) Q E { s with heap := h₄.push { cls := .type "slice", data := .fields #[vl, vu, vs] }, toks := t₄ } := by
      refine wpAny_getItem_list_slice (hlst.push _) (Heap.IsSliceOf.new ..) pl pu ps h0 ?_ (by rw [sz]; exact hsz)
      have aa := (Aft.push_off (D := D₄) (h := h₄) (n := t₄) { cls := .type "slice", data := .fields #[vl, vu, vs] })
      have a5 := a₁.trans (a14.trans (aa.trans (Aft.push_off { cls := .type "list", data := .seq (slicePick its lo hi stp) })))
      refine k _ _ 0 _ t₄ D₄ a5 (fun q => ?_) (a₁.grown.none (a14.grown.none (aa.grown.none (size_fresh _)))) (Heap.get?_push_size _ rfl) ?_
      · obtain ⟨o', e'⟩ := A₄.hs.dl _ q
        have := aa.grown _ _ e'
        rw [size_fresh] at this; cases this
      · exact (Aft.push_off (D := D₄) (n := 0) _).rdAll (aa.rdAll (r.pick lo hi stp))
    cases st with
    | none => exact tail_any (hlst.push _).typeIs slot_list_getitem.lookup (ops := [.ref h₄.objs.size, .ref ax]) fin rfl
    | some e => exact tail_any (hlst.push _).typeIs slot_list_getitem.lookup (ops := [.ref ax, .ref h₄.objs.size]) fin rfl
/-- _law_done(ways, a new list, deeds) -/
theorem ev_law_done {y : Str} {p pos : Pos} {e0 e1 e2 : Expr} {modes : List Nat} {deeds : List Deed} (hst : c.st = true) (hr : Rm c 11) (hl : modes.length = 6) (hok : ∀ d ∈ deeds, deedOk d)
    (hf : EvV c (.Name y p) (.ref 300)) (hK : keepIn (hd.heap_39 c.w.params) (.ref 300) = true) (h0 : EvE c ρ e0 (.list (WAYS.map .str))) (h1 : EvNew c ρ e1 (intsD modes)) (h2 : EvE c ρ e2 (.list (deeds.map deedD)))
    (s1 : starEach [e0, e1, e2] c.env = (false, eval e0 c.env) :: starEach [e1, e2] c.env) (s2 : starEach [e1, e2] c.env = (false, eval e1 c.env) :: starEach [e2] c.env) (s3 : starEach [e2] c.env = (false, eval e2 c.env) :: starEach [] c.env)
    (s4 : (backTo pos (starEach [e1, e2] c.env)).any (·.1) = false) : EvE c ρ (.Call (.Name y p) [e0, e1, e2] [] pos) (.list (intsD (doneM modes deeds))) := by
  intro A D s H Q E k
  refine Call_ ?_
  refine hf A s _ _ H.hs.kt ?_
  refine callWith_K H.hs.kt.1 hK ?_ s1 s4
  refine args_cons ?_ s1
  refine h0 A D s H _ _ fun v0 h₁ t₁ D₁ a₁ r₁ => ?_
  have H₁ : At c A D₁ { s with heap := h₁, toks := t₁ } ρ := H.aft a₁
  refine args_cons ?_ s2
  refine h1 A D₁ { s with heap := h₁, toks := t₁ } H₁ _ _ fun a vs n h₂ t₂ D₂ a₂ nd fr o₂ r₂ => ?_
  have H₂ : At c A D₂ { s with heap := h₂, toks := t₂ } ρ := H₁.aft (s' := { s with heap := h₂, toks := t₂ }) a₂
  refine args_cons ?_ s3
  refine h2 A D₂ { s with heap := h₂, toks := t₂ } H₂ _ _ fun v2 h₃ t₃ D₃ a₃ r₃ => args_nil ?_
  have H₃ : At c A D₃ { s with heap := h₃, toks := t₃ } ρ := H₂.aft (s' := { s with heap := h₃, toks := t₃ }) a₃
  refine ⟨H₃.hs.kt.1, ?_⟩
  have nd₃ : ¬ D₃.p a := fun q => (a₃.fresh a q).elim nd fun ⟨q, _⟩ => by rw [o₂] at q; cases q
  have g3 : Grown s.heap h₃ := a₁.grown.trans (a₂.grown.trans a₃.grown)
  obtain ⟨X, mean, mg, mb, T⟩ := H₃.hs.kt
  have htk := H₃.hs.tk
  rw [hst] at htk
  refine wpAny_AG (d := c.dp) (u := c.un) ?_ H.ok.h H.ok.g H.ok.d H.ok.u
  refine done_call (s := { s with heap := h₃, toks := t₃ }) (g := s.heap) (D := D₃) X T hr.1 (by have := hr.2; omega) H.hs.kt g3 (a₁.grown.none fr) nd₃ H₃.hs.kd H₃.hs.dl htk (a₃.grown _ _ o₂) (a₃.rdAll r₂) (a₃.rd (a₂.rd r₁)) r₃ hl hok fun v h' tk' D' a4 r4 => ?_
  have a13 : Aft D s.heap s.toks D₃ h₃ t₃ := a₁.trans (Aft.trans a₂ a₃)
  have ga : s.heap.get? a = none := a₁.grown.none fr
  refine k v h' tk' D' ⟨fun b o e => a4.kept b o (fun q => by rw [q, ga] at e; cases e) (g3 b o e), fun b q => a4.sub b (a13.sub b q), fun b q => ?_, fun t z q => a4.tsub t z (a13.tsub t z q), Nat.le_trans a13.mono a4.mono, fun o q => let ⟨o', q'⟩ := a13.ok o q; a4.ok o' q'⟩ r4
  rcases a4.fresh b q with q | rfl | ⟨q, o⟩
  · exact (a13.fresh b q).imp id fun ⟨e, o, e'⟩ => ⟨e, a4.alive b o e'⟩
  · exact .inr ⟨ga, a4.alive b _ (a₃.grown _ _ o₂)⟩
  · exact .inr ⟨g3.none q, o⟩
end
/-- data without texts -/
def Nums (d : PD) : Prop := (∃ i, d = .int i) ∨ ∃ xs : List Int, d = .list (xs.map .int)
theorem RdAll.nums {D D' : Ad} {h : Heap} (hp : ∀ a, D.p a → D'.p a) : ∀ {vs : List Value} {xs : List Int}, RdAll D h vs (xs.map .int) → RdAll D' h vs (xs.map .int)
  | [], [], _ => .nil
  | v :: vs, x :: xs, .cons r rs => by
    cases r with
    | int i t => exact .cons (.int _ _) (RdAll.nums hp rs)
theorem Rd.nums {D D' : Ad} {h : Heap} (hp : ∀ a, D.p a → D'.p a) {v : Value} {d : PD} (hd : Nums d) (r : Rd D h v d) : Rd D' h v d := by
  rcases hd with ⟨i, rfl⟩ | ⟨xs, rfl⟩
  · cases r; exact .int _ _
  · cases r with
    | list da o r => exact .list (hp _ da) o (RdAll.nums hp r)
/-- from here on the texts' tokens are kept apart -/
theorem ss_strict {w : World} {dp un : Nat} {env : Env} {W : Pr} {base : Heap} {ρ : Nm} {P : PF → Nm → Prop} {x : Str} {p : Pos} {e : Expr} {pos : Pos} {rest : List Stmt} {d : PD}
    (hk : env.kindOf x = some .local) (hp : (env.scope.kind == .class || (env.scope.kind == .module && env.locals != env.globals)) = false) (he : EvS ⟨w, dp, un, env, false⟩ ρ e d) (hs : swapsWith e (some (.Name x p)) pos.line env = pure false)
    (hn : ∀ y z, upd ρ x (.dat d) y = some z → ∃ d, z = .dat d ∧ Nums d) (hP : ∀ pf ρ', P pf ρ' → ∃ d, pf = .ret d)
    (h : EvSs ⟨w, dp, un, env, true⟩ W base rest (upd ρ x (.dat d)) P) : EvSs ⟨w, dp, un, env, false⟩ W base (.Assign [.Name x p] e pos :: rest) ρ P := by
  intro A D s Q E ok p₀ f k
  refine wpAny_execs_cons ?_
  refine wpAny_Assign_Name ?_ hs
  refine he A D s W base ok p₀ f _ _ fun v h₁ t₁ D₁ a₁ r₁ => ?_
  have f₁ := f.aft a₁
  obtain ⟨m, n⟩ := f₁.ns
  refine wpAny_storeName_local hk n (fun h₂ n₂ hs₂ => ?_) hp
  obtain ⟨f₂, a₂⟩ := f₁.store_local (z := .dat d) r₁ n hk n₂ hs₂
  have a2 := a₂ t₁ (t₁ + 1) (Nat.le_succ _)
  have F : FS ⟨w, dp, un, env, true⟩ W base ⟨D₁.p, fun _ _ => False, t₁ + 1⟩ h₂ (upd ρ x (.dat d)) :=
    ⟨f₂.kt, f₂.gr, f₂.nw, f₂.off, f₂.ex, f₂.wl, f₂.wc, f₂.inj, f₂.ns, f₂.cs, fun y z q => by
      obtain ⟨v', va, r⟩ := f₂.look y z q
      obtain ⟨d', rfl, hd'⟩ := hn y z q
      exact ⟨v', va, Rd.nums (D := D₁) (D' := ⟨D₁.p, fun _ _ => False, t₁ + 1⟩) (fun _ q => q) hd' r⟩, f₂.kd, f₂.dl⟩
  refine h A ⟨D₁.p, fun _ _ => False, t₁ + 1⟩ { s with heap := h₂, toks := t₁ + 1 } Q E ⟨ok.h, ok.d, ok.u, ok.g⟩ ⟨fun _ => ⟨⟨fun _ _ _ q => q.elim, fun _ _ q => q.elim, Nat.succ_pos _⟩, Nat.le_refl _⟩, fun e => (nomatch e)⟩ F fun fl pf ρ' h₃ t₃ D₃ hp₃ a₃ f₃ fr => ?_
  obtain ⟨d', rfl⟩ := hP _ _ hp₃
  have full := (p₀.aft a₁).2 rfl
  have tot : Aft3 W D s.heap s.toks ⟨D₃.p, D₁.T, D₁.n⟩ h₃ t₃ := (Aft.two (W := W) a₁).trans (a2.trans (Aft3.mk a₃.kept a₃.alive a₃.sub a₃.fresh (fun _ _ q => q) a₃.mono fun o q => ⟨⟨o.fn, o.ub, o.pos⟩, Nat.le_trans q a₃.mono⟩))
  refine k fl (.ret d') ρ' h₃ t₃ _ hp₃ tot trivial ?_
  cases fl <;> simp only [FlR] at fr
  exact Rd.keep (D := D₃) (D' := ⟨D₃.p, D₁.T, D₁.n⟩) (fun _ _ q e => ⟨q, e⟩) (fun t x _ => full t x) fr
end Mine
end

-- C15
section
open PySem PySem.W PyProof.Rows PySem.W.X PySem.Calls PySem.Spec PySem.SeqAt
set_option Elab.async false
set_option maxRecDepth 100000
set_option maxHeartbeats 0
set_option linter.unusedVariables false
namespace Mine
theorem filled17 : PySem.Challenge.rw_in0208_01 = PySem.Challenge.rw_in0208_01 ∧ hd.heap_39 = hd.heap_39 := by k_fill; exact ⟨rfl, rfl⟩
-- tb_start: the sides of «cal_def»
local macro_rules | `(tactic| tb_start) => `(tactic| ((case ho => k_dflt k_is); (case hcd => k_dflt k_is); (case hbind => first | exact bt1 fun _ => rfl | exact bt2 fun _ _ => rfl | exact bt3 fun _ _ _ => rfl | exact bt4 fun _ _ _ _ => rfl | exact bt0 rfl); (case hkind => exact fun _ => rfl); (case hco => exact rfl); (case hgen => exact rfl); (case hk => exact rfl)))
def STARTS : List Nat := [213485, 17896, 35273, 41471, 17407, 33184]
def cutN (i : Int) : Nat := (i % ((10 ^ 6 : Nat) : Int)).toNat
def firstN (mv k : Nat) : Nat := (STARTS.getD k 0 + mv * 4097 * k) % 2 ^ 32
def firstsN (mv : Nat) : List Nat := (List.range 6).map (firstN mv)
def numbersN (xs : List Int) : List Nat := [87781, 21, 73276] ++ (xs.take 6).map cutN
def deedN (x : Nat) : Deed := (x % 6, x / 6 % 4, x / 24 % 4096)
def deedsN (xs : List Int) : List Deed := (numbersN xs).map deedN
theorem deeds_ok (xs : List Int) : ∀ d ∈ deedsN xs, deedOk d := by
  intro d h
  obtain ⟨x, _, rfl⟩ := List.mem_map.mp h
  exact ⟨Nat.mod_lt _ (by decide), Nat.mod_lt _ (by decide), Nat.mod_lt _ (by decide)⟩
theorem numbers_len (xs : List Int) : (numbersN xs).length ≤ 9 := by
  unfold numbersN
  rw [List.length_append, List.length_map, List.length_take]
  show 3 + _ ≤ 9
  omega
theorem op_modI {c : Cx} (a : Int) (b : Nat) (h : b ≠ 0) : Op2 c (binaryOp .Mod) (.int a) (.int b) (.int ((a % (b : Int)).toNat : Nat)) := by
  have := op_mod (c := c) (a := a) (b := b) (by omega)
  rw [Int.fmod_eq_emod_of_nonneg _ (Int.natCast_nonneg b)] at this
  rw [Int.toNat_of_nonneg (Int.emod_nonneg _ (by omega))]
  exact this
theorem head_get (xs : List Int) : ((xs.map PyData.int).take 1 ++ [.int 0])[0]? = some (.int (xs.headD 0)) := by
  cases xs <;> rfl
theorem filter_all {α : Type} (l : List α) : (l.filter fun _ => true) = l := List.filter_eq_self.mpr fun _ _ => rfl
theorem seen_get {cl : List (Str × Addr)} {x y : Str} {ρ : Str → Option PD} {e : Ent} {d : PD} (h1 : y ≠ x) (h2 : (cl.lookup y).isSome = true) (h : ρ y = some d) : dats (upd (seen cl x ρ) x e) y = some d := by
  refine dats_of ?_
  simp only [upd, if_neg h1]
  unfold seen
  rw [if_neg h1, if_pos h2, h]
  rfl
def firstD (mv : Nat) : PD → PD
  | .int i => .int (firstN mv i.toNat : Nat)
  | d => d
def cutD : PD → PD
  | .int i => .int (cutN i : Nat)
  | d => d
def toDeedD : PD → PD
  | .int i => deedD (deedN i.toNat)
  | d => d
def strOf : PD → Str
  | .str x => x
  | _ => ""
def joinD : PD → PD
  | .list xs => .str ("/" ++ Txt.join "/" (xs.map strOf))
  | d => d
def rightD (firsts : List Nat) (ds : List Deed) (k : Nat) : PD → PD
  | .int i => .int (rightR firsts i.toNat ds k 0 : Nat)
  | d => d
theorem firsts_list (mv : Nat) : (((List.range 6).map fun (i : Nat) => PyData.int i).filter fun _ => true).map (firstD mv) = intsD (firstsN mv) := by
  rw [filter_all, List.map_map]; unfold intsD firstsN; rw [List.map_map]; rfl
theorem numbers_list (xs : List Int) : [PyData.int 87781, .int 21, .int 73276] ++ ((((xs.map PyData.int).take 6).filter fun _ => true).map cutD) = intsD (numbersN xs) := by
  unfold intsD numbersN
  rw [filter_all, ← List.map_take, List.map_map, List.map_append, List.map_map]; rfl
theorem deeds_list (xs : List Int) : (((intsD (numbersN xs)).filter fun _ => true).map toDeedD) = (deedsN xs).map deedD := by
  unfold intsD deedsN
  rw [filter_all, List.map_map, List.map_map]; rfl
theorem strOf_map (names : List Str) : (names.map PyData.str).map strOf = names := by
  rw [List.map_map]; exact List.map_id' names
theorem ways_list : (((NAMES.map strsD).filter fun _ => true).map joinD) = WAYS.map .str := by
  have e : NAMES.map (fun n => "/" ++ Txt.join "/" n) = WAYS := by decide +kernel
  rw [filter_all, List.map_map, ← e, List.map_map]
  refine List.map_congr_left fun n _ => ?_
  show PyData.str ("/" ++ Txt.join "/" ((n.map PyData.str).map strOf)) = _
  rw [strOf_map]; rfl
theorem rights_list (firsts : List Nat) (ds : List Deed) (k m : Nat) (h : ∀ i, i < 12 → rightR firsts i ds k 0 = bt m i) : (((List.range 12).map fun (i : Nat) => PyData.int i).filter fun _ => true).map (rightD firsts ds k) = bitsD (bt m) := by
  unfold bitsD intsD
  rw [filter_all, List.map_map, List.map_map]
  refine List.map_congr_left fun i hi => ?_
  show PyData.int (rightR firsts i ds k 0 : Nat) = _
  rw [h i (List.mem_range.mp hi)]; rfl
theorem ways_ok : (shaped (.list (WAYS.map .str)) && noMix (.list (WAYS.map .str)) (.list (WAYS.map .str)) && PySem.Spec.same (.list (WAYS.map .str)) (.list (WAYS.map .str))) = true := by decide +kernel
theorem names_join : ∀ n ∈ NAMES, (n.map (·.length)).sum + n.length * Str.length "/" ≤ 16777216 ∧ Str.length "/" + (Txt.join "/" n).length ≤ 1000 := by decide +kernel
theorem small_bits : ∀ i, i < 6 → Builtin.Int.intBits ((i : Nat) : Int) ≤ 64 := by decide +kernel
theorem firsts_get (mv : Nat) {k : Nat} (h : k < 6) : (firstsN mv)[k]? = some (firstN mv k) := by unfold firstsN; rw [List.getElem?_map, List.getElem?_range h]; rfl
theorem starts_get {k : Nat} (h : k < 6) : (intsD STARTS)[k]? = some (.int (STARTS.getD k 0 : Nat)) := intsD_get (getD_of h)
theorem c_law {c : Cx} (hr : Rm c 20) (hst : c.st = false) (xs : List Int) (hx : xs.length ≤ 63) : Cal c (.ref 331) [.list (xs.map .int)] (.bool true) := by
  obtain ⟨w, dp, un, env0, st0⟩ := c
  dsimp only at hst
  subst hst
  refine' cal_def (xs := ["script"]) ?ho ?hcd hr.lim rfl ?hbind ?hkind ?hco ?hgen ?hk ?_; tb_start
  intro L base
  have sl : ∀ n : Nat, n ≤ 1000 → n ≤ sizeLine := fun n h => Nat.le_trans h (by decide)
  have rm : ∀ n, n ≤ 19 → ∀ {env : Env} {b : Bool}, Rm ⟨w, dp + 1, un + 3, env, b⟩ n := fun n h {env b} => ⟨by have := hr.1; dsimp only at this; show dp + 1 + n ≤ 400; omega, by have := hr.2; dsimp only at this; show un + 3 + 3 * n ≤ 4000; omega⟩
  have hu : un + 3 + 70 < cLine := by have := hr.2; dsimp only at this; exact Nat.lt_of_le_of_lt (by omega : un + 3 + 70 ≤ 4200) (by decide)
  have lx : (xs.map PyData.int).length ≤ 63 := by rw [List.length_map]; exact hx
  refine ss_assign (d := .int (cutN (xs.headD 0) : Nat)) (wr_cell rfl rfl rfl) (evs ?A) rfl ?_
  case A =>
    exact ev_bin (ev_item (i := .int ((0 : Nat) : Int)) (ev_bin (ev_slice_list (xs := xs.map PyData.int) (ys := (xs.map PyData.int).take 1) (lo := none) (hi := some ((1 : Nat) : Int)) (stp := none) (ev_name rfl rfl rfl rfl) ep_none (ep_some ev_int) ep_none (by decide) (sl _ (by omega)) pick_len)
      (ev_list (es_cons ev_int es_nil rfl) (sl 1 (by decide))) (op_add_list (sl _ (by rw [List.length_take]; show _ + 1 ≤ 1000; omega)))) ev_int (fun _ _ => rfl) (gi_list (head_get xs) (by decide))) (ev_bin ev_int ev_int (op_powN 10 6 (by decide) (by decide))) (op_modI (xs.headD 0) (10 ^ 6) (by decide))
  generalize cutN (xs.headD 0) = mv
  refine ss_assign (d := .list (intsD STARTS)) (wr_cell rfl rfl rfl) (evs ?A) rfl ?_
  case A =>
    refine @ev_list _ _ _ _ [.int 213485, .int 17896, .int 35273, .int 41471, .int 17407, .int 33184] ?_ (sl 6 (by decide))
    exact @es_cons _ _ _ _ _ _ ev_int (@es_cons _ _ _ _ _ _ ev_int (@es_cons _ _ _ _ _ _ ev_int (@es_cons _ _ _ _ _ _ ev_int (@es_cons _ _ _ _ _ _ ev_int (@es_cons _ _ _ _ _ _ ev_int es_nil rfl) rfl) rfl) rfl) rfl) rfl
  refine ss_assign (d := .list (intsD (firstsN mv))) (wr_cell rfl rfl rfl) (evs (EvE.cast (ev_comp (ds := (List.range 6).map fun (i : Nat) => PyData.int i) (cl := [("starts", L + 2), ("moved", L + 1)]) (firstD mv) (fun _ => true) ⟨rfl, by decide, rfl, by decide, rfl, ⟨rfl, .inl rfl, rfl, ⟨rfl, .inl rfl, rfl, trivial⟩⟩⟩
    (ei_range (n := 6) (ev_boot ⟨rfl, rfl, rfl⟩ rfl (by k_is) (by boot_by_name) (by decide) rfl) ev_int (by decide) (by decide) rfl) (sl _ (by decide)) (fun d C _ => ets_nil) ?he (fun _ => rfl)) (congrArg PyData.list (firsts_list mv)))) rfl ?_
  case he =>
    intro d C hd _
    obtain ⟨j, hj, rfl⟩ := List.mem_map.mp hd
    have hj := List.mem_range.mp hj
    exact ev_bin (ev_bin (ev_item (ev_name rfl rfl rfl rfl) (ev_name rfl rfl rfl rfl) (fun _ _ => rfl) (gi_list (starts_get hj) (by omega))) (ev_bin (ev_bin (ev_name rfl rfl rfl rfl) ev_int (op_mulN mv 4097 (IntMulOk.of_right (by decide)))) (ev_name rfl rfl rfl rfl) (op_mulN (mv * 4097) j (IntMulOk.of_right (small_bits j hj)))) (op_addN _ _)) (ev_bin ev_int ev_int (op_powN 2 32 (by decide) (by decide))) (op_modN _ (2 ^ 32) (by decide))
  have hF6 : (firstsN mv).length = 6 := by unfold firstsN; simp
  refine ss_strict (d := .list (intsD (numbersN xs))) rfl rfl (evs ?A) rfl ?hn (fun pf ρ' h => ⟨_, h⟩) ?_
  case A =>
    refine EvE.cast (ev_bin (@ev_list _ _ _ _ [.int 87781, .int 21, .int 73276] (@es_cons _ _ _ _ _ _ ev_int (@es_cons _ _ _ _ _ _ ev_int (@es_cons _ _ _ _ _ _ ev_int es_nil rfl) rfl) rfl) (sl 3 (by decide)))
      (ev_comp (cl := []) (ds := (xs.map PyData.int).take 6) cutD (fun _ => true) ⟨rfl, by decide, rfl, by decide, rfl, trivial⟩
        (ei_list (ev_slice_list (xs := xs.map PyData.int) (ys := (xs.map PyData.int).take 6) (lo := none) (hi := some ((6 : Nat) : Int)) (stp := none) (ev_name rfl rfl rfl rfl) ep_none (ep_some ev_int) ep_none (by decide) (sl _ (by omega)) pick_len))
        (sl _ (by rw [List.length_take]; omega)) (fun d C _ => ets_nil) ?he (fun _ => rfl)) (op_add_list (sl _ (by rw [filter_all, List.length_map, List.length_take]; show 3 + _ ≤ 1000; omega)))) (congrArg PyData.list (numbers_list xs))
    case he =>
      intro d C hd _
      rw [← List.map_take] at hd
      obtain ⟨j, hj, rfl⟩ := List.mem_map.mp hd
      exact ev_bin (ev_name rfl rfl rfl rfl) (ev_bin ev_int ev_int (op_powN 10 6 (by decide) (by decide))) (op_modI j (10 ^ 6) (by decide))
  case hn =>
    have nn : ∀ ns : List Nat, Nums (.list (intsD ns)) := fun ns => .inr ⟨ns.map Int.ofNat, by unfold intsD; rw [List.map_map]; rfl⟩
    intro y z q
    by_cases z1 : y = "numbers"
    · simp only [upd, if_pos z1] at q; cases q; exact ⟨_, rfl, nn _⟩
    simp only [upd, if_neg z1] at q
    by_cases z2 : y = "firsts"
    · simp only [if_pos z2] at q; cases q; exact ⟨_, rfl, nn _⟩
    simp only [if_neg z2] at q
    by_cases z3 : y = "starts"
    · simp only [if_pos z3] at q; cases q; exact ⟨_, rfl, nn _⟩
    simp only [if_neg z3] at q
    by_cases z4 : y = "moved"
    · simp only [if_pos z4] at q; cases q; exact ⟨_, rfl, .inl ⟨_, rfl⟩⟩
    simp only [if_neg z4] at q
    by_cases z5 : y = "script"
    · subst z5; cases q; exact ⟨_, rfl, .inr ⟨xs, rfl⟩⟩
    · have q : (if y = "script" then some (Ent.dat (.list (xs.map .int))) else none) = some z := q
      rw [if_neg z5] at q; cases q
  refine ss_assign (d := .list ((deedsN xs).map deedD)) (wr_cell rfl rfl rfl) (evs (EvE.cast (ev_comp (ds := intsD (numbersN xs)) (cl := []) toDeedD (fun _ => true) ⟨rfl, by decide, rfl, by decide, rfl, trivial⟩
    (ei_list (ev_name rfl rfl rfl rfl)) (sl _ (by rw [intsD_len]; have := numbers_len xs; omega)) (fun d C _ => ets_nil) ?he (fun _ => rfl)) (congrArg PyData.list (deeds_list xs)))) rfl ?_
  case he =>
    intro d C hd _
    obtain ⟨j, hj, rfl⟩ := List.mem_map.mp hd
    exact ev_tuple (es_cons (ev_bin (ev_name rfl rfl rfl rfl) ev_int (op_modN j 6 (by decide))) (es_cons (ev_bin (ev_bin (ev_name rfl rfl rfl rfl) ev_int (op_divN j 6 (by decide) (by decide))) ev_int (op_modN (j / 6) 4 (by decide))) (es_cons (ev_bin (ev_bin (ev_name rfl rfl rfl rfl) ev_int (op_divN j 24 (by decide) (by decide))) ev_int (op_modN (j / 24) 4096 (by decide))) es_nil rfl) rfl) rfl) (sl 3 (by decide))
  have hok := deeds_ok xs
  have hdl : (deedsN xs).length ≤ 9 := by unfold deedsN; rw [List.length_map]; exact numbers_len xs
  generalize deedsN xs = deeds at *
  generalize hF : firstsN mv = firsts at *
  have hMl : (doneM firsts deeds).length = 6 := by rw [doneM_len, hF6]
  refine ss_assign (.inl ⟨rfl, rfl⟩) (evs (ev_call_def (ev_top ⟨rfl, rfl, rfl⟩ rfl (by k_is) rfl) (by k_is) es_nil (c_law_ways (rm 8 (by decide))) (.inl ⟨rfl, rfl⟩))) rfl ?_
  refine ss_assign (d := .list (intsD (doneM firsts deeds))) (.inl ⟨rfl, rfl⟩) (evs ?A) rfl ?_
  case A =>
    exact ev_law_done rfl (rm 11 (by decide)) hF6 hok (ev_top ⟨rfl, rfl, rfl⟩ rfl (by k_is) rfl) (by k_is) (ev_name rfl rfl rfl rfl) (en_slice (xs := intsD firsts) (lo := none) (hi := none) (stp := none) (ev_name rfl rfl rfl rfl) ep_none ep_none ep_none (by decide) (sl _ (by rw [intsD_len, hF6]; decide)) pick_all) (ev_name rfl rfl rfl rfl) rfl rfl rfl rfl
  have hbits : ∀ k, k < 6 → ∀ i, i < 12 → rightR firsts i deeds.reverse k 0 = bt ((doneM firsts deeds).getD k 0) i := fun k hk i hi => right_done' hi hF6 deeds hok hk
  have hkind : ∀ k, k < 6 → firsts.getD k 0 / 4096 % 16 = (doneM firsts deeds).getD k 0 / 4096 % 16 := fun k hk => (kind_done hF6 deeds hk).symm
  generalize doneM firsts deeds = M at *
  have w3 := ways_ok
  simp only [Bool.and_eq_true] at w3
  obtain ⟨⟨w1, w2⟩, w3⟩ := w3
  refine ss_if (b := false) (evts (et_bool (EvB.cast (eb_or (et_cmp (ev_name rfl rfl rfl rfl) ?C (op_ne_data w1 w1 w2 (by show un + 3 + 64 < cLine; omega)) rfl)
    fun _ => eb_or (et_cmp (ev_call_builtin (ev_boot ⟨rfl, rfl, rfl⟩ rfl (by k_is) (by boot_by_name) (by decide) rfl) (es_cons (ev_name rfl rfl rfl rfl) es_nil rfl) ((cal_len_list (ds := intsD M) (by rw [intsD_len, hMl]; decide)).cast (d' := .int ((6 : Nat) : Int)) (by rw [intsD_len, hMl])) rfl rfl) ev_int op_ne_int rfl) fun _ => eb_or_nil) ?E))) (fun e => by cases e) fun _ => ?_
  case C =>
    refine EvE.cast (ev_comp (cl := []) (ds := NAMES.map strsD) joinD (fun _ => true) ⟨rfl, by decide, rfl, by decide, rfl, trivial⟩
      (ei_list (ev_call_def (ev_top ⟨rfl, rfl, rfl⟩ rfl (by k_is) rfl) (by k_is) es_nil (c_law_names (rm 1 (by decide))) (.inl ⟨rfl, rfl⟩))) (sl _ (by decide)) (fun d C _ => ets_nil) ?he (fun _ => rfl)) (congrArg PyData.list ways_list)
    case he =>
      intro d C hd _
      obtain ⟨n, hn, rfl⟩ := List.mem_map.mp hd
      obtain ⟨n1, n2⟩ := names_join n hn
      show EvE _ _ _ (.str ("/" ++ Txt.join "/" ((n.map PyData.str).map strOf)))
      rw [strOf_map]
      exact ev_bin ev_str (ev_meth ev_str gm_join (es_cons (ev_name rfl rfl rfl rfl) es_nil rfl) (cal_join (ys := n) n1) rfl rfl rfl) (op_add_str (sl _ n2))
  case E =>
    rw [w3]; rfl
  refine ss_nil ?_
  refine ss_for (ds := (List.range 6).map fun (i : Nat) => PyData.int i) (EvI0.evI (ei_range (n := 6) (ev_boot ⟨rfl, rfl, rfl⟩ rfl (by k_is) (by boot_by_name) (by decide) rfl) ev_int (by decide) (by decide) rfl) (.inl ⟨_, _, rfl⟩))
    (fun i ρ' => ρ' "firsts" = some (.dat (.list (intsD firsts))) ∧ ρ' "deeds" = some (.dat (.list (deeds.map deedD))) ∧ ρ' "modes" = some (.dat (.list (intsD M)))) ⟨rfl, rfl, rfl⟩ ?_ ?_ (fun _ => rfl)
  · rintro k d' ρ' hk ⟨e1, e2, e3⟩
    have hk6 : k < 6 := by have := (List.getElem?_eq_some_iff.mp hk).1; simpa using this
    obtain rfl : d' = .int k := by
      rw [List.getElem?_map, List.getElem?_range hk6] at hk
      simpa using hk.symm
    refine ⟨_, asg_name (wr_cell rfl rfl rfl), ?_⟩
    refine ss_assign_comp (ds := (List.range 12).map fun (i : Nat) => PyData.int i) (cl := [("k", L + 3), ("firsts", L + 4), ("deeds", L + 5)]) (rightD firsts deeds.reverse k) (fun _ => true) (.inl ⟨rfl, rfl⟩) ⟨rfl, by decide, rfl, by decide, rfl, ⟨rfl, .inl rfl, rfl, ⟨rfl, .inl rfl, rfl, ⟨rfl, .inl rfl, rfl, trivial⟩⟩⟩⟩
      (ei_range (n := 12) (ev_boot ⟨rfl, rfl, rfl⟩ rfl (by k_is) (by boot_by_name) (by decide) rfl) ev_int (by decide) (by decide) rfl) (sl _ (by decide)) (fun d C _ => ets_nil) ?he (fun _ => rfl) rfl ?_
    case he =>
      intro d C hd _
      obtain ⟨j, hj, rfl⟩ := List.mem_map.mp hd
      have hj := List.mem_range.mp hj
      exact ev_call_def (ev_top ⟨rfl, rfl, rfl⟩ rfl (by k_is) rfl) (by k_is) (es_cons (ev_name rfl rfl rfl (seen_get (by decide) rfl (dats_of e1))) (es_cons (ev_name rfl rfl rfl (seen_get (by decide) rfl (dats_of e2))) (es_cons (ev_name rfl rfl rfl rfl) (es_cons (ev_name rfl rfl rfl rfl) es_nil rfl) rfl) rfl) rfl)
        (c_law_right (rm 10 (by decide)) firsts deeds k j hF6 hok hk6 hj (by omega)) (.inr ⟨_, _, rfl, rfl, rfl⟩)
    rw [rights_list firsts deeds.reverse k (M.getD k 0) (hbits k hk6)]
    refine ss_if (b := false) (evts (et_not (b := true) (et_plain (ev_call_def (ev_top ⟨rfl, rfl, rfl⟩ rfl (by k_is) rfl) (by k_is) (es_cons (ev_item (ev_name rfl rfl rfl (alls_of e3)) (ev_name rfl rfl rfl rfl) (fun _ _ => rfl) (gi_list (intsD_get (getD_of (by rw [hMl]; exact hk6))) (by omega)))
      (es_cons (EvE.cast (ev_bin (ev_bin (ev_item (ev_name rfl rfl rfl (alls_of e1)) (ev_name rfl rfl rfl rfl) (fun _ _ => rfl) (gi_list (intsD_get (getD_of (by rw [hF6]; exact hk6))) (by omega))) ev_int (op_divN _ 4096 (by decide) (by decide))) ev_int (op_modN _ 16 (by decide))) (by rw [hkind k hk6])) (es_cons (ev_name rfl rfl rfl rfl) es_nil rfl) rfl) rfl)
      (c_law_as_told (rm 10 (by decide)) (M.getD k 0)) (.inr ⟨_, _, rfl, rfl, rfl⟩)) tru_bool rfl))) (fun e => by cases e) fun _ => ?_
    exact ss_nil (ss_nil ⟨e1, e2, e3⟩)
  · rintro ρ' ⟨e1, e2, e3⟩
    refine ss_nil ?_
    exact ss_return (evs ev_bool) rfl
end Mine
end

-- Z1
section
open PySem PySem.W PyProof.Rows PySem.W.X PySem.Calls
set_option Elab.async false
set_option maxRecDepth 100000
set_option maxHeartbeats 0
set_option linter.unusedVariables false
namespace Mine
theorem well_ints {P : Params} {D : Ad} {h : Heap} : ∀ {vs : List Value} {ns : List Int}, WellAll P h vs (ofPys (ns.map PyData.int)) → RdAll D h vs (ns.map PyData.int)
  | [], [], _ => .nil
  | v :: vs, n :: ns, .cons w ws => by
    have w' : Well P h v (.int n) := w
    cases w' with
    | int _ t => exact .cons (.int _ _) (well_ints ws)
theorem law_end {c : ClaimW} {w : World} {cl : Str → Option Addr} {mean me : ExcName → Option Value} {mg mb : Str → Option Value} {args : List WData} {s₁ : Shared} {l : Addr} {ns : List Int} {lo : List Str} (hlo : lo = LS)
    (KX : (hd.heap_39 w.params).In s₁.heap) (T : Top hd.view_39 lo me mg mb s₁.heap) (hg : s₁.gens = #[]) (hw : Well w.params s₁.heap (.ref l) (ofPy (.list (ns.map PyData.int)))) (hn : ns.length ≤ 63)
    (hr : ∀ cls, c.raises args cls = false) (hp : c.post args (.bool true) args = true) :
    wpAny (model P0 w) callerA (call (.ref 331) [.ref l]) (fun v s' => GoodWG c cl mean args s₁ (.ok (.ret v)) s') (fun e s' => GoodWG c cl mean args s₁ (.error e) s') s₁ := by
  subst hlo
  let D : Ad := ⟨fun a => ∃ o, s₁.heap.get? a = some o, fun _ _ => True, 0⟩
  have hwl : Well w.params s₁.heap (.ref l) (.list (ofPys (ns.map PyData.int))) := hw
  cases hwl with
  | list o ws =>
    have C := c_law (c := ⟨w, callerA.depth, callerA.units, (default : Env), false⟩) ⟨by show callerA.depth + 20 ≤ 400; decide, by show callerA.units + 3 * 20 ≤ 4000; decide⟩ rfl ns hn
    refine C callerA D s₁ [.ref l] ⟨rfl, Nat.le_refl _, Nat.le_refl _, rfl⟩ ⟨⟨KX, _, mg, mb, T⟩, fun a o e => ⟨o, KX _ _ e⟩, fun a q => q, fun e => (nomatch e), fun _ _ _ => trivial⟩ (.cons (.list ⟨_, o⟩ o (well_ints ws)) .nil) _ _ fun v h' tk' D' a r => ?_
    cases r
    exact GoodW.toG ⟨.inl ⟨_, _, [], rfl, hr, ReadsW.bool true, hp, fun _ => ⟨List.nodup_nil, fun _ hm => (nomatch hm)⟩⟩, a.grown, rfl, hg⟩
end Mine
end
open PySem PySem.W PyProof.Rows PySem.W.X PySem.Calls
set_option Elab.async false
set_option maxRecDepth 100000 in
set_option maxHeartbeats 0 in
theorem PySem.Challenge.cw_in0208_01_holds : PySem.Challenge.rw_in0208_01.Holds := by
  refine Mine.hd ?_
  k_fill
  intro w s₀ s₁ mg mb G Y fa o pm cd doc dV kV ho hd hcd hD hmg hg args vals as hpre hlay hrd hwl hlo
  have KX := kIn_of Y
  refine Ground.open G ?_
  intro T B D TE TW
  wrow_args hpre hlay hrd hwl hlo
  x_fa T KX hmg
  refine Mine.law_end (by first | rfl | decide +kernel) KX T hg (by assumption) (by omega) (fun _ => rfl) (by first | rfl | wrow_post)

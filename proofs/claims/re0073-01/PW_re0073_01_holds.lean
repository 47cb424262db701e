import PyProof.Rows.All
import Wide.All
import OpenK.AllK
import Wide.FinOn
import Lean
import PySem.Challenge.RW_re0073_01
set_option Elab.async false
set_option autoImplicit false
set_option linter.unusedVariables false
namespace Mine

noncomputable def px (f : Nat → Bool) : Nat → Bool
  | 0 => false
  | n + 1 => (px f n).xor (f n)
theorem px_congr {f g : Nat → Bool} : ∀ n, (∀ p, p < n → f p = g p) → px f n = px g n
  | 0, _ => rfl
  | n + 1, h => by rw [px, px, px_congr n fun p hp => h p (by (first | lia | omega)), h n (by (first | lia | omega))]
theorem px_false (n : Nat) : px (fun _ => false) n = false := by
  induction n with
  | zero => rfl
  | succ n ih => rw [px, ih]; rfl
theorem px_xor (f g : Nat → Bool) : ∀ n, px (fun p => (f p).xor (g p)) n = (px f n).xor (px g n)
  | 0 => rfl
  | n + 1 => by
    rw [px, px, px, px_xor f g n]
    generalize px f n = a; generalize px g n = b; generalize f n = c; generalize g n = d
    revert a b c d; decide
theorem px_and (a : Bool) (f : Nat → Bool) (n : Nat) : px (fun p => a && f p) n = (a && px f n) := by
  cases a
  · simp [px_false]
  · simp
theorem px_swap (g : Nat → Nat → Bool) (m : Nat) : ∀ n, px (fun p => px (fun q => g p q) m) n = px (fun q => px (fun p => g p q) n) m
  | 0 => by rw [px]; exact (px_false m).symm
  | n + 1 => by
    rw [px, px_swap g m n, ← px_xor]
    rfl

noncomputable def bitsN (f : Nat → Bool) : Nat → Nat
  | 0 => 0
  | n + 1 => bitsN f n + (if f n then 2 ^ n else 0)
theorem bitsN_lt (f : Nat → Bool) : ∀ n, bitsN f n < 2 ^ n
  | 0 => by simp [bitsN]
  | n + 1 => by
    have := bitsN_lt f n
    rw [bitsN, Nat.pow_succ]
    split <;> (first | lia | omega)
theorem bitsN_bit (f : Nat → Bool) : ∀ n j, (bitsN f n).testBit j = (decide (j < n) && f j)
  | 0, j => by simp [bitsN]
  | n + 1, j => by
    have hl := bitsN_lt f n
    have ih := bitsN_bit f n
    rw [bitsN]
    by_cases hf : f n = true
    · rw [if_pos hf, Nat.add_comm]
      by_cases hj : j < n
      · rw [Nat.testBit_two_pow_add_gt hj, ih, decide_eq_true hj, decide_eq_true (by (first | lia | omega) : j < n + 1)]
      · by_cases e : j = n
        · subst e
          rw [Nat.testBit_two_pow_add_eq, Nat.testBit_lt_two_pow hl, decide_eq_true (by (first | lia | omega) : j < j + 1), hf]; rfl
        · rw [decide_eq_false (by (first | lia | omega) : ¬ j < n + 1), Bool.false_and]
          apply Nat.testBit_lt_two_pow
          have : 2 ^ (n + 1) ≤ 2 ^ j := Nat.pow_le_pow_right (by decide) (by (first | lia | omega))
          rw [Nat.pow_succ] at this; (first | lia | omega)
    · rw [if_neg hf, Nat.add_zero, ih]
      by_cases hj : j < n
      · rw [decide_eq_true hj, decide_eq_true (by (first | lia | omega) : j < n + 1)]
      · by_cases e : j = n
        · subst e
          simp only [Bool.not_eq_true] at hf
          rw [decide_eq_false hj, hf]; simp
        · rw [decide_eq_false hj, decide_eq_false (by (first | lia | omega) : ¬ j < n + 1)]

noncomputable def fx (row : Nat → Nat) : Nat → Nat → Nat
  | 0, _ => 0
  | n + 1, x => fx row n x ^^^ (if x.testBit n then row n else 0)
theorem fx_bit (row : Nat → Nat) (x q : Nat) : ∀ n, (fx row n x).testBit q = px (fun p => x.testBit p && (row p).testBit q) n
  | 0 => by simp [fx, px]
  | n + 1 => by
    rw [fx, Nat.testBit_xor, fx_bit row x q n, px]
    cases x.testBit n <;> simp
theorem fx_congr (row : Nat → Nat) {x y : Nat} : ∀ n, (∀ p, p < n → x.testBit p = y.testBit p) → fx row n x = fx row n y
  | 0, _ => rfl
  | n + 1, h => by rw [fx, fx, fx_congr row n fun p hp => h p (by (first | lia | omega)), h n (by (first | lia | omega))]
theorem fx_xor (row : Nat → Nat) (n x y : Nat) : fx row n (x ^^^ y) = fx row n x ^^^ fx row n y := by
  apply Nat.eq_of_testBit_eq
  intro q
  rw [Nat.testBit_xor, fx_bit, fx_bit, fx_bit, ← px_xor]
  apply px_congr
  intro p _
  rw [Nat.testBit_xor]
  cases x.testBit p <;> cases y.testBit p <;> cases (row p).testBit q <;> rfl
theorem fx_zero (row : Nat → Nat) : ∀ n, fx row n 0 = 0
  | 0 => rfl
  | n + 1 => by rw [fx, fx_zero row n]; simp
theorem fx_pow (row : Nat → Nat) (p : Nat) : ∀ n, fx row n (2 ^ p) = if p < n then row p else 0
  | 0 => by simp [fx]
  | n + 1 => by
    rw [fx, fx_pow row p n, Nat.testBit_two_pow]
    by_cases h : p < n
    · rw [if_pos h, if_pos (by (first | lia | omega) : p < n + 1), if_neg (by simp; (first | lia | omega))]; simp
    · by_cases e : p = n
      · subst e; simp
      · rw [if_neg h, if_neg (by (first | lia | omega) : ¬ p < n + 1), if_neg (by simp; (first | lia | omega))]; rfl
theorem fx_lt (row : Nat → Nat) {m : Nat} (x : Nat) : ∀ n, (∀ p, p < n → row p < 2 ^ m) → fx row n x < 2 ^ m
  | 0, _ => by simp [fx]; exact Nat.two_pow_pos m
  | n + 1, h => by
    rw [fx]
    refine Nat.xor_lt_two_pow (fx_lt row x n fun p hp => h p (by (first | lia | omega))) ?_
    split
    · exact h n (by (first | lia | omega))
    · exact Nat.two_pow_pos m

noncomputable def cnt (row : Nat → Nat) (n y : Nat) : Nat := (List.range (2 ^ n)).countP fun x => decide (fx row n x = y)
theorem cnt_succ (row : Nat → Nat) (n y : Nat) : cnt row (n + 1) y = cnt row n y + cnt row n (y ^^^ row n) := by
  unfold cnt
  have e : (2 : Nat) ^ (n + 1) = 2 ^ n + 2 ^ n := by rw [Nat.pow_succ]; (first | lia | omega)
  rw [e, List.range_add, List.countP_append, List.countP_map]
  congr 1
  · apply List.countP_congr
    intro x hx
    have hx' := List.mem_range.mp hx
    have : fx row (n + 1) x = fx row n x := by rw [fx, Nat.testBit_lt_two_pow hx']; simp
    rw [this]
  · apply List.countP_congr
    intro x hx
    have hx' := List.mem_range.mp hx
    have : fx row (n + 1) (2 ^ n + x) = fx row n x ^^^ row n := by
      rw [fx, Nat.testBit_two_pow_add_eq, Nat.testBit_lt_two_pow hx']
      rw [fx_congr row n (x := 2 ^ n + x) (y := x) fun p hp => Nat.testBit_two_pow_add_gt hp x]
      simp
    simp only [Function.comp, this, decide_eq_true_eq]
    constructor
    · intro h; rw [← h, Nat.xor_assoc, Nat.xor_self, Nat.xor_zero]
    · intro h; rw [h, Nat.xor_assoc, Nat.xor_self, Nat.xor_zero]
theorem cnt_zero (row : Nat → Nat) (y : Nat) : cnt row 0 y = if y = 0 then 1 else 0 := by
  unfold cnt
  by_cases h : y = 0
  · subst h; rfl
  · rw [if_neg h]
    show List.countP _ [0] = 0
    simp [fx, Ne.symm h]
theorem cnt_shift (row : Nat → Nat) : ∀ (n y : Nat), cnt row n y ≠ 0 → ∀ z, cnt row n (y ^^^ z) = cnt row n z
  | 0, y, h, z => by
    rw [cnt_zero] at h
    have : y = 0 := by
      by_cases e : y = 0
      · exact e
      · rw [if_neg e] at h; exact absurd rfl h
    subst this; rw [Nat.zero_xor]
  | n + 1, y, h, z => by
    rw [cnt_succ] at h
    rw [cnt_succ, cnt_succ, Nat.xor_assoc]
    by_cases h1 : cnt row n y = 0
    · have h2 : cnt row n (y ^^^ row n) ≠ 0 := by (first | lia | omega)
      have e1 : y ^^^ z = (y ^^^ row n) ^^^ (z ^^^ row n) := by
        rw [Nat.xor_assoc, ← Nat.xor_assoc (row n), Nat.xor_comm (row n), Nat.xor_assoc z, Nat.xor_self, Nat.xor_zero]
      have e2 : y ^^^ (z ^^^ row n) = (y ^^^ row n) ^^^ z := by rw [Nat.xor_assoc, Nat.xor_comm z]
      rw [e1, e2, cnt_shift row n _ h2, cnt_shift row n _ h2, Nat.add_comm]
    · rw [cnt_shift row n y h1, cnt_shift row n y h1]

noncomputable def redN (l o : Nat) : Nat := min l (l ^^^ o)
theorem redN_is : ∀ x, x < 32 → ∀ o, o < 32 → redN x o = if x.testBit o.log2 && o != 0 then x ^^^ o else x := by decide +kernel
theorem redN_lt {x : Nat} (o : Nat) (h : x < 32) : redN x o < 32 := Nat.lt_of_le_of_lt (Nat.min_le_left _ _) h
theorem redN_xor {x y o : Nat} (hx : x < 32) (hy : y < 32) (ho : o < 32) : redN (x ^^^ y) o = redN x o ^^^ redN y o := by
  rw [redN_is x hx o ho, redN_is y hy o ho, redN_is _ (Nat.xor_lt_two_pow (n := 5) hx hy) o ho, Nat.testBit_xor]
  have aux : ∀ a c : Nat, a ^^^ o ^^^ (c ^^^ o) = a ^^^ c := fun a c => by
    rw [Nat.xor_assoc, ← Nat.xor_assoc o, Nat.xor_comm o, Nat.xor_assoc c, Nat.xor_self, Nat.xor_zero]
  by_cases e : o = 0
  · subst e; simp
  · have : (o != 0) = true := by simpa using e
    rw [this]
    cases x.testBit o.log2 <;> cases y.testBit o.log2 <;> simp
    · rw [Nat.xor_assoc]
    · rw [Nat.xor_assoc, Nat.xor_comm y, ← Nat.xor_assoc]
    · exact (aux x y).symm
theorem xor_zero_iff {a c : Nat} : a ^^^ c = 0 ↔ a = c := by
  constructor
  · intro h
    have : a ^^^ c ^^^ c = c := by rw [h, Nat.zero_xor]
    rw [Nat.xor_assoc, Nat.xor_self, Nat.xor_zero] at this
    exact this
  · rintro rfl; exact Nat.xor_self a
theorem redN_zero {x o : Nat} : redN x o = 0 ↔ x = 0 ∨ x = o := by
  unfold redN
  constructor
  · intro h
    by_cases hx : x = 0
    · exact .inl hx
    · have : x ^^^ o = 0 := by (first | lia | omega)
      exact .inr (xor_zero_iff.mp this)
  · rintro (h | h)
    · subst h; simp
    · subst h; simp

noncomputable def redB (basis : List Nat) (x : Nat) : Nat := basis.foldl redN x
noncomputable def rkStep (basis : List Nat) (row : Nat) : List Nat := if redB basis row ≠ 0 then basis ++ [redB basis row] else basis
noncomputable def bas (row : Nat → Nat) : Nat → List Nat
  | 0 => []
  | n + 1 => rkStep (bas row n) (row n)
theorem redB_lt : ∀ (bs : List Nat) {x : Nat}, x < 32 → redB bs x < 32
  | [], _, h => h
  | o :: bs, x, h => redB_lt bs (redN_lt o h)
theorem redB_xor : ∀ (bs : List Nat), (∀ o ∈ bs, o < 32) → ∀ {x y : Nat}, x < 32 → y < 32 → redB bs (x ^^^ y) = redB bs x ^^^ redB bs y
  | [], _, _, _, _, _ => rfl
  | o :: bs, h, x, y, hx, hy => by
    show redB bs (redN (x ^^^ y) o) = redB bs (redN x o) ^^^ redB bs (redN y o)
    rw [redN_xor hx hy (h o (.head _)), redB_xor bs (fun z hz => h z (.tail _ hz)) (redN_lt o hx) (redN_lt o hy)]
theorem redB_snoc (bs : List Nat) (o x : Nat) : redB (bs ++ [o]) x = redN (redB bs x) o := by simp [redB]

structure Span (row : Nat → Nat) (n : Nat) : Prop where
  lt : ∀ o ∈ bas row n, o < 32
  iff : ∀ y, y < 32 → (cnt row n y ≠ 0 ↔ redB (bas row n) y = 0)
  size : cnt row n 0 * 2 ^ (bas row n).length = 2 ^ n
theorem span_ok (row : Nat → Nat) : ∀ n, (∀ p, p < n → row p < 32) → Span row n
  | 0, _ => by
    refine ⟨fun o h => (by cases h), fun y _ => ?_, (by rw [cnt_zero]; rfl)⟩
    rw [cnt_zero]
    show _ ↔ y = 0
    by_cases h : y = 0 <;> simp [h]
  | n + 1, hr => by
    have I := span_ok row n fun p hp => hr p (by (first | lia | omega))
    have hrn := hr n (by (first | lia | omega))
    obtain ⟨bs, hbs⟩ : ∃ bs, bs = bas row n := ⟨_, rfl⟩
    have hstep : bas row (n + 1) = rkStep bs (row n) := by rw [hbs]; rfl
    obtain ⟨ilt, iif, isz⟩ := I
    rw [← hbs] at ilt iif isz
    have hred : ∀ y, y < 32 → redB bs (y ^^^ row n) = redB bs y ^^^ redB bs (row n) := fun y hy => redB_xor bs ilt hy hrn
    by_cases h0 : redB bs (row n) = 0
    · have e : bas row (n + 1) = bs := by rw [hstep, rkStep, if_neg (by rw [h0]; simp)]
      refine ⟨by rw [e]; exact ilt, fun y hy => ?_, ?_⟩
      · have h1 := iif y hy
        have h2 := iif (y ^^^ row n) (Nat.xor_lt_two_pow (n := 5) hy hrn)
        rw [hred y hy, h0, Nat.xor_zero] at h2
        rw [e, cnt_succ, ← h1]
        rw [← h1] at h2
        constructor
        · intro h
          by_cases h3 : cnt row n y = 0
          · exact h2.mp (by (first | lia | omega))
          · exact h3
        · intro h; (first | lia | omega)
      · have h1 := (iif (row n) hrn).mpr h0
        have h2 := cnt_shift row n (row n) h1 0
        rw [Nat.xor_zero] at h2
        rw [e, cnt_succ, Nat.zero_xor, h2, Nat.pow_succ, ← isz, Nat.add_mul]; (first | lia | omega)
    · have e : bas row (n + 1) = bs ++ [redB bs (row n)] := by rw [hstep, rkStep, if_pos h0]
      have hz : cnt row n (row n) = 0 := by
        by_cases h : cnt row n (row n) = 0
        · exact h
        · exact absurd ((iif (row n) hrn).mp h) h0
      refine ⟨fun o ho => ?_, fun y hy => ?_, ?_⟩
      · rw [e] at ho
        rcases List.mem_append.mp ho with ho | ho
        · exact ilt o ho
        · simp at ho; subst ho; exact redB_lt bs hrn
      · rw [e, redB_snoc, redN_zero, cnt_succ]
        have h1 := iif y hy
        have h2 := iif (y ^^^ row n) (Nat.xor_lt_two_pow (n := 5) hy hrn)
        rw [hred y hy, xor_zero_iff] at h2
        rw [← h1, ← h2]
        (first | lia | omega)
      · rw [e, cnt_succ, Nat.zero_xor, hz, Nat.add_zero, List.length_append, List.length_cons, List.length_nil, Nat.pow_succ, Nat.pow_succ, ← Nat.mul_assoc, isz]
end Mine
set_option Elab.async false
set_option autoImplicit false
set_option linter.unusedVariables false
set_option linter.unusedSectionVars false
namespace Mine

structure Alg (α : Type) where
  xr : α → α → α
  an : α → α → α
  tt : α
noncomputable def Alg.nt {α : Type} (A : Alg α) (a : α) : α := A.xr A.tt a
noncomputable def Alg.ff {α : Type} (A : Alg α) : α := A.xr A.tt A.tt
noncomputable def Alg.sum {α : Type} (A : Alg α) (f : Nat → α) : Nat → α
  | 0 => A.ff
  | n + 1 => A.xr (A.sum f n) (f n)
noncomputable def Alg.all {α : Type} (A : Alg α) (f : Nat → α) : Nat → α
  | 0 => A.tt
  | n + 1 => A.an (A.all f n) (f n)
noncomputable def Alg.mux {α : Type} (A : Alg α) (k u v : α) : α := A.xr v (A.an k (A.xr u v))
noncomputable def Alg.tri {α : Type} (A : Alg α) (f : Nat → α) : Nat → α × α
  | 0 => (A.ff, A.ff)
  | n + 1 => match A.tri f n with
    | (a, b) => (A.mux (f n) (A.an (A.nt a) (A.nt b)) a, A.mux (f n) a b)
variable {α : Type}
noncomputable def Alg.lit (A : Alg α) (n : Nat) (T : Nat → Nat → α) (x q : Nat) : α := A.sum (fun p => if x.testBit p then T p q else A.ff) n
noncomputable def Alg.hit (A : Alg α) (n : Nat) (T : Nat → Nat → α) (x : Nat) : α := A.all (fun q => A.nt (A.xr (A.lit n T x q) (T q q))) n
noncomputable def Alg.idle (A : Alg α) (n : Nat) (T : Nat → Nat → α) (x : Nat) : α := A.all (fun q => A.nt (A.lit n T x q)) n
noncomputable def Alg.par (A : Alg α) (n : Nat) (T : Nat → Nat → α) (x : Nat) : α := A.sum (fun p => if x.testBit p then T p p else A.ff) n
noncomputable def Alg.odd (A : Alg α) (n : Nat) (T : Nat → Nat → α) : α := match A.tri (A.idle n T) (2 ^ n) with
  | (_, b) => if n % 2 = 1 then A.nt b else b
noncomputable def Alg.chk (A : Alg α) (n : Nat) (T : Nat → Nat → α) : α :=
  A.an (A.all (fun x => A.nt (A.an (A.hit n T x) (A.xr (A.par n T x) (A.odd n T)))) (2 ^ n)) (A.nt (A.all (fun x => A.nt (A.hit n T x)) (2 ^ n)))

noncomputable def boolA : Alg Bool := ⟨Bool.xor, Bool.and, true⟩
noncomputable def natA : Alg Nat := ⟨Nat.xor, Nat.land, 2 ^ 32768 - 1⟩

section
variable (m : Nat) (hm : m < 32768)
include hm
theorem tt_bit : natA.tt.testBit m = boolA.tt := by
  show (2 ^ 32768 - 1).testBit m = true
  rw [Nat.testBit_two_pow_sub_one, decide_eq_true hm]
theorem xr_bit (a c : Nat) : (natA.xr a c).testBit m = boolA.xr (a.testBit m) (c.testBit m) := Nat.testBit_xor a c m
theorem an_bit (a c : Nat) : (natA.an a c).testBit m = boolA.an (a.testBit m) (c.testBit m) := Nat.testBit_and a c m
theorem nt_bit (a : Nat) : (natA.nt a).testBit m = boolA.nt (a.testBit m) := by
  unfold Alg.nt; rw [xr_bit m hm, tt_bit m hm]
theorem ff_bit : natA.ff.testBit m = boolA.ff := by
  unfold Alg.ff; rw [xr_bit m hm, tt_bit m hm]
theorem sum_bit {f : Nat → Nat} {g : Nat → Bool} (h : ∀ i, (f i).testBit m = g i) : ∀ n, (natA.sum f n).testBit m = boolA.sum g n
  | 0 => ff_bit m hm
  | n + 1 => by rw [Alg.sum, Alg.sum, xr_bit m hm, sum_bit h n, h]
theorem all_bit {f : Nat → Nat} {g : Nat → Bool} (h : ∀ i, (f i).testBit m = g i) : ∀ n, (natA.all f n).testBit m = boolA.all g n
  | 0 => tt_bit m hm
  | n + 1 => by rw [Alg.all, Alg.all, an_bit m hm, all_bit h n, h]
theorem mux_bit (k u v : Nat) : (natA.mux k u v).testBit m = boolA.mux (k.testBit m) (u.testBit m) (v.testBit m) := by
  unfold Alg.mux; rw [xr_bit m hm, an_bit m hm, xr_bit m hm]
theorem tri_bit {f : Nat → Nat} {g : Nat → Bool} (h : ∀ i, (f i).testBit m = g i) : ∀ n, (natA.tri f n).1.testBit m = (boolA.tri g n).1 ∧ (natA.tri f n).2.testBit m = (boolA.tri g n).2
  | 0 => by
    rw [Alg.tri, Alg.tri]
    dsimp only
    rw [ff_bit m hm]
    exact ⟨rfl, rfl⟩
  | n + 1 => by
    obtain ⟨h1, h2⟩ := tri_bit h n
    constructor
    · show (natA.mux _ _ _).testBit m = boolA.mux _ _ _
      rw [mux_bit m hm, an_bit m hm, nt_bit m hm, nt_bit m hm, h, h1, h2]
    · show (natA.mux _ _ _).testBit m = boolA.mux _ _ _
      rw [mux_bit m hm, h, h1, h2]
variable {T : Nat → Nat → Nat} {U : Nat → Nat → Bool} (hT : ∀ p q, (T p q).testBit m = U p q)
include hT
theorem lit_bit (n x q : Nat) : (natA.lit n T x q).testBit m = boolA.lit n U x q := by
  refine sum_bit m hm (fun p => ?_) n
  split
  · exact hT p q
  · exact ff_bit m hm
theorem hit_bit (n x : Nat) : (natA.hit n T x).testBit m = boolA.hit n U x :=
  all_bit m hm (fun q => by rw [nt_bit m hm, xr_bit m hm, lit_bit m hm hT, hT]) n
theorem idle_bit (n x : Nat) : (natA.idle n T x).testBit m = boolA.idle n U x :=
  all_bit m hm (fun q => by rw [nt_bit m hm, lit_bit m hm hT]) n
theorem par_bit (n x : Nat) : (natA.par n T x).testBit m = boolA.par n U x := by
  refine sum_bit m hm (fun p => ?_) n
  split
  · exact hT p p
  · exact ff_bit m hm
theorem odd_bit (n : Nat) : (natA.odd n T).testBit m = boolA.odd n U := by
  have h := (tri_bit m hm (idle_bit m hm hT n) (2 ^ n)).2
  unfold Alg.odd
  show (if n % 2 = 1 then natA.nt (natA.tri (natA.idle n T) (2 ^ n)).2 else (natA.tri (natA.idle n T) (2 ^ n)).2).testBit m = if n % 2 = 1 then boolA.nt (boolA.tri (boolA.idle n U) (2 ^ n)).2 else (boolA.tri (boolA.idle n U) (2 ^ n)).2
  split
  · rw [nt_bit m hm, h]
  · exact h
theorem chk_bit (n : Nat) : (natA.chk n T).testBit m = boolA.chk n U := by
  unfold Alg.chk
  rw [an_bit m hm, nt_bit m hm, all_bit m hm (fun x => by rw [nt_bit m hm, an_bit m hm, xr_bit m hm, hit_bit m hm hT, par_bit m hm hT, odd_bit m hm hT]), all_bit m hm (fun x => by rw [nt_bit m hm, hit_bit m hm hT])]
end

noncomputable def tv : Nat → Nat → Nat
  | 0, _ => 0
  | n + 1, k => if k = n then (2 ^ 2 ^ n - 1) <<< (2 ^ n) else tv n k ||| (tv n k <<< (2 ^ n))
theorem tv_lt : ∀ n k, tv n k < 2 ^ 2 ^ n
  | 0, _ => by simp [tv]
  | n + 1, k => by
    have e : 2 ^ (n + 1) = 2 ^ n + 2 ^ n := by rw [Nat.pow_succ]; (first | lia | omega)
    have h0 : 0 < 2 ^ 2 ^ n := Nat.two_pow_pos _
    rw [tv, e]
    split
    · rw [Nat.shiftLeft_eq, Nat.pow_add]
      exact Nat.mul_lt_mul_of_pos_right (by (first | lia | omega)) h0
    · have := tv_lt n k
      refine Nat.or_lt_two_pow (Nat.lt_of_lt_of_le this (Nat.pow_le_pow_right (by decide) (Nat.le_add_right _ _))) ?_
      rw [Nat.shiftLeft_eq, Nat.pow_add]
      exact Nat.mul_lt_mul_of_pos_right this h0
theorem tv_bit : ∀ n k m, m < 2 ^ n → (tv n k).testBit m = (decide (k < n) && m.testBit k)
  | 0, k, m, h => by simp [tv]
  | n + 1, k, m, h => by
    rw [tv]
    have e : 2 ^ (n + 1) = 2 ^ n + 2 ^ n := by rw [Nat.pow_succ]; (first | lia | omega)
    by_cases hk : k = n
    · subst hk
      rw [if_pos rfl, Nat.testBit_shiftLeft, decide_eq_true (by (first | lia | omega) : k < k + 1), Bool.true_and]
      by_cases hm : m < 2 ^ k
      · rw [decide_eq_false (by (first | lia | omega)), Nat.testBit_lt_two_pow hm]; rfl
      · rw [decide_eq_true (by (first | lia | omega)), Nat.testBit_two_pow_sub_one, decide_eq_true (by (first | lia | omega))]
        obtain ⟨r, rfl⟩ : ∃ r, m = 2 ^ k + r := ⟨m - 2 ^ k, by (first | lia | omega)⟩
        rw [Nat.testBit_two_pow_add_eq, Nat.testBit_lt_two_pow (by (first | lia | omega))]; rfl
    · rw [if_neg hk, Nat.testBit_or, Nat.testBit_shiftLeft]
      by_cases hm : m < 2 ^ n
      · rw [tv_bit n k m hm, decide_eq_false (by (first | lia | omega) : ¬ m ≥ 2 ^ n), Bool.false_and, Bool.or_false]
        congr 1
        exact decide_eq_decide.mpr (by (first | lia | omega))
      · rw [Nat.testBit_lt_two_pow (Nat.lt_of_lt_of_le (tv_lt n k) (Nat.pow_le_pow_right (by decide) (by (first | lia | omega)))), decide_eq_true (by (first | lia | omega) : m ≥ 2 ^ n), Bool.true_and, Bool.false_or, tv_bit n k _ (by (first | lia | omega))]
        obtain ⟨r, rfl⟩ : ∃ r, m = 2 ^ n + r := ⟨m - 2 ^ n, by (first | lia | omega)⟩
        rw [Nat.add_sub_cancel_left]
        by_cases hkn : k < n
        · rw [decide_eq_true hkn, decide_eq_true (by (first | lia | omega) : k < n + 1), Nat.testBit_two_pow_add_gt hkn]
        · rw [decide_eq_false hkn, decide_eq_false (by (first | lia | omega) : ¬ k < n + 1)]; rfl

noncomputable def tix (p q : Nat) : Nat := max p q * (max p q + 1) / 2 + min p q
noncomputable def tbl (p q : Nat) : Nat := tv 15 (tix p q)
theorem chk4 : natA.chk 4 tbl = 2 ^ 32768 - 1 := by decide +kernel
theorem chk5 : natA.chk 5 tbl = 2 ^ 32768 - 1 := by decide +kernel
end Mine
set_option Elab.async false
set_option autoImplicit false
set_option linter.unusedVariables false
namespace Mine
theorem b_sum (f : Nat → Bool) : ∀ n, boolA.sum f n = px f n
  | 0 => rfl
  | n + 1 => by rw [Alg.sum, px, b_sum f n]; rfl
theorem b_all (f : Nat → Bool) : ∀ n, boolA.all f n = true ↔ ∀ i, i < n → f i = true
  | 0 => ⟨fun _ i h => by (first | lia | omega), fun _ => rfl⟩
  | n + 1 => by
    rw [Alg.all]
    show ((boolA.all f n) && f n) = true ↔ _
    rw [Bool.and_eq_true, b_all f n]
    constructor
    · rintro ⟨h1, h2⟩ i hi
      by_cases e : i = n
      · subst e; exact h2
      · exact h1 i (by (first | lia | omega))
    · intro h
      exact ⟨fun i hi => h i (by (first | lia | omega)), h n (by (first | lia | omega))⟩
theorem b_nt (a : Bool) : boolA.nt a = !a := by cases a <;> rfl
theorem b_tri (f : Nat → Bool) : ∀ n, boolA.tri f n = (decide ((List.range n).countP f % 3 = 1), decide ((List.range n).countP f % 3 = 2))
  | 0 => rfl
  | n + 1 => by
    rw [Alg.tri, b_tri f n, List.range_succ, List.countP_append]
    have e : List.countP f [n] = if f n = true then 1 else 0 := by simp [List.countP_cons]
    rw [e]
    generalize List.countP f (List.range n) = c
    have h3 : c % 3 = 0 ∨ c % 3 = 1 ∨ c % 3 = 2 := by (first | lia | omega)
    cases hf : f n
    · simp only [hf]
      rcases h3 with h | h | h <;> simp [h, Alg.mux, boolA, Alg.nt]
    · simp only [hf, if_true]
      rcases h3 with h | h | h
      · rw [h, show (c + 1) % 3 = 1 by (first | lia | omega)]; rfl
      · rw [h, show (c + 1) % 3 = 2 by (first | lia | omega)]; rfl
      · rw [h, show (c + 1) % 3 = 0 by (first | lia | omega)]; rfl

noncomputable def ri (k : Nat) : Nat := [0, 1, 1, 2, 2, 2, 3, 3, 3, 3, 4, 4, 4, 4, 4].getD k 0
noncomputable def ci (k : Nat) : Nat := [0, 0, 1, 0, 1, 2, 0, 1, 2, 3, 0, 1, 2, 3, 4].getD k 0
theorem tix_ok : ∀ p, p < 5 → ∀ q, q < 5 → tix p q < 15 ∧ ri (tix p q) = max p q ∧ ci (tix p q) = min p q := by decide

noncomputable def mOf (row : Nat → Nat) : Nat := bitsN (fun k => (row (ri k)).testBit (ci k)) 15
theorem chk_true {n : Nat} (hn : n = 4 ∨ n = 5) (row : Nat → Nat) : boolA.chk n (fun p q => (tbl p q).testBit (mOf row)) = true := by
  have hm : mOf row < 32768 := bitsN_lt _ 15
  rw [← chk_bit (mOf row) hm (T := tbl) (fun p q => rfl)]
  have : natA.chk n tbl = 2 ^ 32768 - 1 := by
    rcases hn with h | h
    · subst h; exact chk4
    · subst h; exact chk5
  rw [this, Nat.testBit_two_pow_sub_one, decide_eq_true hm]
theorem tbl_row {n : Nat} (hn : n ≤ 5) {row : Nat → Nat} (hs : ∀ p q, p < n → q < n → (row p).testBit q = (row q).testBit p) {p q : Nat} (hp : p < n) (hq : q < n) : (tbl p q).testBit (mOf row) = (row p).testBit q := by
  have hm : mOf row < 2 ^ 15 := bitsN_lt _ 15
  obtain ⟨h1, h2, h3⟩ := tix_ok p (by (first | lia | omega)) q (by (first | lia | omega))
  rw [tbl, tv_bit 15 _ _ hm, decide_eq_true h1, Bool.true_and, mOf, bitsN_bit, decide_eq_true h1, Bool.true_and, h2, h3]
  by_cases h : p ≤ q
  · rw [Nat.max_eq_right h, Nat.min_eq_left h]; exact hs q p hq hp
  · rw [Nat.max_eq_left (by (first | lia | omega)), Nat.min_eq_right (by (first | lia | omega))]

structure Sutner (row : Nat → Nat) (n : Nat) : Prop where
  par : ∀ x, x < 2 ^ n → (∀ q, q < n → (fx row n x).testBit q = (row q).testBit q) → px (fun p => x.testBit p && (row p).testBit p) n = decide ((bas row n).length % 2 = 1)
  ex : ∃ x, x < 2 ^ n ∧ ∀ q, q < n → (fx row n x).testBit q = (row q).testBit q

theorem sutner {n : Nat} (hn : n = 4 ∨ n = 5) (row : Nat → Nat) (hlt : ∀ p, p < n → row p < 2 ^ n) (hs : ∀ p q, p < n → q < n → (row p).testBit q = (row q).testBit p) : Sutner row n := by
  have hn5 : n ≤ 5 := by (first | lia | omega)
  have h := chk_true hn row
  obtain ⟨U, hU⟩ : ∃ U : Nat → Nat → Bool, U = fun p q => (tbl p q).testBit (mOf row) := ⟨_, rfl⟩
  have hUr : ∀ p q, p < n → q < n → U p q = (row p).testBit q := fun p q hp hq => by rw [hU]; exact tbl_row hn5 hs hp hq
  rw [← hU] at h
  have hlit : ∀ x q, q < n → boolA.lit n U x q = (fx row n x).testBit q := fun x q hq => by
    rw [Alg.lit, b_sum, fx_bit]
    apply px_congr
    intro p hp
    rw [hUr p q hp hq]
    cases x.testBit p <;> rfl
  have hhit : ∀ x, boolA.hit n U x = true ↔ ∀ q, q < n → (fx row n x).testBit q = (row q).testBit q := fun x => by
    rw [Alg.hit, b_all]
    constructor
    · intro h q hq
      have := h q hq
      rw [b_nt, hlit x q hq, hUr q q hq hq] at this
      revert this
      show (!((fx row n x).testBit q).xor ((row q).testBit q)) = true → _
      cases (fx row n x).testBit q <;> cases (row q).testBit q <;> simp
    · intro h q hq
      rw [b_nt, hlit x q hq, hUr q q hq hq, h q hq]
      show (!((row q).testBit q).xor ((row q).testBit q)) = true
      simp
  have hfl : ∀ x, fx row n x < 2 ^ n := fun x => fx_lt row x n hlt
  have hidle : ∀ x, boolA.idle n U x = decide (fx row n x = 0) := fun x => by
    apply Bool.eq_iff_iff.mpr
    rw [Alg.idle, b_all, decide_eq_true_eq]
    constructor
    · intro h
      apply Nat.eq_of_testBit_eq
      intro q
      rw [Nat.zero_testBit]
      by_cases hq : q < n
      · have := h q hq
        rw [b_nt, hlit x q hq] at this
        simpa using this
      · exact Nat.testBit_lt_two_pow (Nat.lt_of_lt_of_le (hfl x) (Nat.pow_le_pow_right (by decide) (by (first | lia | omega))))
    · intro h q hq
      rw [b_nt, hlit x q hq, h]; simp
  have hpar : ∀ x, boolA.par n U x = px (fun p => x.testBit p && (row p).testBit p) n := fun x => by
    rw [Alg.par, b_sum]
    apply px_congr
    intro p hp
    rw [hUr p p hp hp]
    cases x.testBit p <;> rfl
  have hcnt : (List.range (2 ^ n)).countP (boolA.idle n U) = cnt row n 0 := by
    unfold cnt
    apply List.countP_congr
    intro x _
    rw [hidle x]
  have hodd : boolA.odd n U = decide ((bas row n).length % 2 = 1) := by
    have hsz := (span_ok row n fun p hp => Nat.lt_of_lt_of_le (hlt p hp) (Nat.pow_le_pow_right (n := 2) (by decide) hn5)).size
    unfold Alg.odd
    rw [b_tri, hcnt]
    show (if n % 2 = 1 then boolA.nt (decide (cnt row n 0 % 3 = 2)) else decide (cnt row n 0 % 3 = 2)) = _
    rw [b_nt]
    generalize (bas row n).length = r at hsz ⊢
    generalize cnt row n 0 = c at hsz ⊢
    have hr : r ≤ n := by
      rcases Nat.lt_or_ge n r with h | h
      · exfalso
        have h1 : 2 ^ (n + 1) ≤ 2 ^ r := Nat.pow_le_pow_right (by decide) h
        have h2 : 0 < 2 ^ n := Nat.two_pow_pos n
        have h3 : 1 ≤ c := by
          rcases Nat.eq_zero_or_pos c with h4 | h4
          · rw [h4, Nat.zero_mul] at hsz; (first | lia | omega)
          · exact h4
        have h4 : 1 * 2 ^ r ≤ c * 2 ^ r := Nat.mul_le_mul_right _ h3
        rw [Nat.pow_succ] at h1
        (first | lia | omega)
      · exact h
    rcases hn with h | h
    · subst h
      have : r = 0 ∨ r = 1 ∨ r = 2 ∨ r = 3 ∨ r = 4 := by (first | lia | omega)
      rcases this with h | h | h | h | h <;> subst h
      · have : c = 16 := by (first | lia | omega)
        subst this; rfl
      · have : c = 8 := by (first | lia | omega)
        subst this; rfl
      · have : c = 4 := by (first | lia | omega)
        subst this; rfl
      · have : c = 2 := by (first | lia | omega)
        subst this; rfl
      · have : c = 1 := by (first | lia | omega)
        subst this; rfl
    · subst h
      have : r = 0 ∨ r = 1 ∨ r = 2 ∨ r = 3 ∨ r = 4 ∨ r = 5 := by (first | lia | omega)
      rcases this with h | h | h | h | h | h <;> subst h
      · have : c = 32 := by (first | lia | omega)
        subst this; rfl
      · have : c = 16 := by (first | lia | omega)
        subst this; rfl
      · have : c = 8 := by (first | lia | omega)
        subst this; rfl
      · have : c = 4 := by (first | lia | omega)
        subst this; rfl
      · have : c = 2 := by (first | lia | omega)
        subst this; rfl
      · have : c = 1 := by (first | lia | omega)
        subst this; rfl
  unfold Alg.chk at h
  have h' : (boolA.all (fun x => boolA.nt (boolA.an (boolA.hit n U x) (boolA.xr (boolA.par n U x) (boolA.odd n U)))) (2 ^ n) && boolA.nt (boolA.all (fun x => boolA.nt (boolA.hit n U x)) (2 ^ n))) = true := h
  rw [Bool.and_eq_true, b_all] at h'
  obtain ⟨h1, h2⟩ := h'
  refine ⟨fun x hx hq => ?_, ?_⟩
  · have h3 := h1 x hx
    rw [b_nt, (hhit x).mpr hq, hpar, hodd] at h3
    revert h3
    show (!(true && (px _ n).xor (decide _))) = true → _
    cases px (fun p => x.testBit p && (row p).testBit p) n <;> cases decide ((bas row n).length % 2 = 1) <;> simp
  · rw [b_nt] at h2
    have h3 : ¬ (boolA.all (fun x => boolA.nt (boolA.hit n U x)) (2 ^ n) = true) := by simpa using h2
    rw [b_all] at h3
    obtain ⟨x, hx⟩ := Classical.not_forall.mp h3
    obtain ⟨hx1, hx2⟩ := Classical.not_imp.mp hx
    rw [b_nt] at hx2
    exact ⟨x, hx1, (hhit x).mp (by simpa using hx2)⟩
end Mine
open PySem PySem.Calls PyProof.Rows PySem.W
set_option Elab.async false
namespace Mine

inductive PV where
  | int (i : Int)
  | bool (b : Bool)
  | none
  | str (s : Str)
  | list (l : List PV)
  | tup (l : List PV)
  | dict (ks : List Str) (vs : List PV)
  | set (l : List Int)
  | bot

structure Tab where
  P : Addr
  line : Nat
  col : Nat
  qual : Str

structure Sys where
  prog : Program
  w : World
  hT : Heap
  tabs : List Tab

noncomputable def Sys.TB (S : Sys) : List Addr := S.tabs.map (·.P)

noncomputable def TabOk (S : Sys) (h : Heap) : Prop :=
  ∀ t ∈ S.tabs, ∃ ps, h.get? t.P = some (tabObj ps) ∧
    (ps = #[] ∨ ∃ c', ps = #[rawInt t.line, rawInt t.col, .ref c'] ∧ h.CodeRec (.ref c') t.qual)

structure Gd (S : Sys) (h : Heap) : Prop where
  top : ∀ b o, b ∉ S.TB → S.hT.get? b = some o → h.get? b = some o
  tab : TabOk S h

mutual
inductive Rp (S : Sys) (h : Heap) : Value → PV → List Addr → Prop
  | int (i : Int) (t : Tok) : Rp S h (.int i t) (.int i) []
  | bool (b : Bool) : Rp S h (.bool b) (.bool b) []
  | none : Rp S h .none .none []
  | str (x : Str) (t : Tok) : Rp S h (.str x t) (.str x) []
  | list {a : Addr} {vs : List Value} {ps : List PV} {fp : List Addr} : a ∉ S.TB → h.PlainList a vs.toArray → Rps S h vs ps fp → Rp S h (.ref a) (.list ps) (a :: fp)
  | tup {a : Addr} {vs : List Value} {ps : List PV} {fp : List Addr} : a ∉ S.TB → h.IsTuple a vs.toArray → Rps S h vs ps fp → Rp S h (.ref a) (.tup ps) (a :: fp)
  | dict {a : Addr} {ks : List Str} {vs : List Value} {ps : List PV} {fp : List Addr} : a ∉ S.TB → (a == sysModules) = false → ks.length = vs.length → h.DictOf (strKind S.prog S.w) a (ks.zip vs) → Rps S h vs ps fp → Rp S h (.ref a) (.dict ks ps) (a :: fp)
inductive Rps (S : Sys) (h : Heap) : List Value → List PV → List Addr → Prop
  | nil : Rps S h [] [] []
  | cons {v : Value} {vs : List Value} {p : PV} {ps : List PV} {f1 f2 : List Addr} : Rp S h v p f1 → Rps S h vs ps f2 → Rps S h (v :: vs) (p :: ps) (f1 ++ f2)
end

noncomputable def AtomIs : PV → Value → List Addr → Prop
  | .int i, v, fp => ∃ t, v = .int i t ∧ fp = []
  | .str x, v, fp => ∃ t, v = .str x t ∧ fp = []
  | .bool c, v, fp => ∃ _ : Unit, v = .bool c ∧ fp = []
  | .none, v, fp => ∃ _ : Unit, v = .none ∧ fp = []
  | _, _, _ => True
theorem Rp.inv {S : Sys} {h : Heap} {v : Value} {p : PV} {fp : List Addr} (r : Rp S h v p fp) : AtomIs p v fp := by
  cases r <;> first | exact ⟨_, rfl, rfl⟩ | exact ⟨(), rfl, rfl⟩ | trivial

theorem tb_data {S : Sys} {h : Heap} (G : TabOk S h) {b : Addr} (hb : b ∈ S.TB) : ∃ ps, h.get? b = some (tabObj ps) := by
  obtain ⟨t, ht, rfl⟩ := List.mem_map.mp hb
  obtain ⟨ps, e, _⟩ := G t ht
  exact ⟨ps, e⟩

theorem Rp.mono {S : Sys} {h h' : Heap} {v : Value} {p : PV} {fp : List Addr} (r : Rp S h v p fp) : (∀ b ∈ fp, ∀ o, h.get? b = some o → h'.get? b = some o) → Rp S h' v p fp := by
  refine Rp.rec (motive_1 := fun v p fp _ => (∀ b ∈ fp, ∀ o, h.get? b = some o → h'.get? b = some o) → Rp S h' v p fp)
    (motive_2 := fun vs ps fp _ => (∀ b ∈ fp, ∀ o, h.get? b = some o → h'.get? b = some o) → Rps S h' vs ps fp) ?_ ?_ ?_ ?_ ?_ ?_ ?_ ?_ ?_ r
  · intro i t _; exact .int i t
  · intro b _; exact .bool b
  · intro _; exact .none
  · intro x t _; exact .str x t
  · intro a vs ps fp h1 h2 _ ih k
    exact .list h1 (let ⟨n, e⟩ := h2; ⟨n, k a (.head _) _ e⟩) (ih fun b hb => k b (.tail _ hb))
  · intro a vs ps fp h1 h2 _ ih k
    exact .tup h1 (h2.at fun o e => k a (.head _) o e) (ih fun b hb => k b (.tail _ hb))
  · intro a ks vs ps fp h1 h2 h3 h4 _ ih k
    exact .dict h1 h2 h3 (h4.at fun o e => k a (.head _) o e) (ih fun b hb => k b (.tail _ hb))
  · intro _; exact .nil
  · intro v vs p ps f1 f2 _ _ i1 i2 k
    exact .cons (i1 fun b hb => k b (List.mem_append_left _ hb)) (i2 fun b hb => k b (List.mem_append_right _ hb))

theorem Rps.mono {S : Sys} {h h' : Heap} : ∀ {vs : List Value} {ps : List PV} {fp : List Addr}, Rps S h vs ps fp → (∀ b ∈ fp, ∀ o, h.get? b = some o → h'.get? b = some o) → Rps S h' vs ps fp
  | _, _, _, .nil, _ => .nil
  | _, _, _, .cons a b, k => .cons (a.mono fun x hx => k x (List.mem_append_left _ hx)) (Rps.mono b fun x hx => k x (List.mem_append_right _ hx))

theorem Rp.lives {S : Sys} {h : Heap} {v : Value} {p : PV} {fp : List Addr} (r : Rp S h v p fp) : ∀ b ∈ fp, b ∉ S.TB ∧ ∃ o, h.get? b = some o := by
  refine Rp.rec (motive_1 := fun v p fp _ => ∀ b ∈ fp, b ∉ S.TB ∧ ∃ o, h.get? b = some o) (motive_2 := fun vs ps fp _ => ∀ b ∈ fp, b ∉ S.TB ∧ ∃ o, h.get? b = some o) ?_ ?_ ?_ ?_ ?_ ?_ ?_ ?_ ?_ r
  · intro i t b hb; cases hb
  · intro x b hb; cases hb
  · intro b hb; cases hb
  · intro x t b hb; cases hb
  · intro a vs ps fp h1 h2 _ ih b hb
    rcases List.mem_cons.mp hb with rfl | hb
    · obtain ⟨n, e⟩ := h2; exact ⟨h1, _, e⟩
    · exact ih b hb
  · intro a vs ps fp h1 h2 _ ih b hb
    rcases List.mem_cons.mp hb with rfl | hb
    · exact ⟨h1, h2.choose, h2.choose_spec.1⟩
    · exact ih b hb
  · intro a ks vs ps fp h1 _ _ h2 _ ih b hb
    rcases List.mem_cons.mp hb with rfl | hb
    · obtain ⟨o, _, _, e, _⟩ := h2; exact ⟨h1, o, e⟩
    · exact ih b hb
  · intro b hb; cases hb
  · intro v vs p ps f1 f2 _ _ i1 i2 b hb
    rcases List.mem_append.mp hb with hb | hb
    · exact i1 b hb
    · exact i2 b hb

theorem Rps.lives {S : Sys} {h : Heap} : ∀ {vs : List Value} {ps : List PV} {fp : List Addr}, Rps S h vs ps fp → ∀ b ∈ fp, b ∉ S.TB ∧ ∃ o, h.get? b = some o
  | _, _, _, .nil, _, hb => by cases hb
  | _, _, _, .cons a b, x, hb => (List.mem_append.mp hb).elim (a.lives x) (Rps.lives b x)

theorem Rps.length {S : Sys} {h : Heap} : ∀ {vs : List Value} {ps : List PV} {fp : List Addr}, Rps S h vs ps fp → vs.length = ps.length
  | _, _, _, .nil => rfl
  | _, _, _, .cons _ b => by rw [List.length_cons, List.length_cons, Rps.length b]

theorem Rps.get {S : Sys} {h : Heap} : ∀ {vs : List Value} {ps : List PV} {fp : List Addr}, Rps S h vs ps fp → ∀ {i : Nat} {p : PV}, ps[i]? = some p →
    ∃ v f, vs[i]? = some v ∧ Rp S h v p f ∧ ∀ b ∈ f, b ∈ fp
  | _, _, _, .nil, _, _, e => by simp at e
  | _, _, _, .cons (v := v) (f1 := f1) a b, 0, p, e => by
    simp at e; subst e
    exact ⟨v, f1, rfl, a, fun x hx => List.mem_append_left _ hx⟩
  | _, _, _, .cons a b, i + 1, p, e => by
    simp at e
    obtain ⟨v, f, e1, r, k⟩ := Rps.get b e
    exact ⟨v, f, by simpa using e1, r, fun x hx => List.mem_append_right _ (k x hx)⟩

theorem Rps.get' {S : Sys} {h : Heap} : ∀ {vs : List Value} {ps : List PV} {fp : List Addr}, Rps S h vs ps fp → ∀ {i : Nat} {v : Value}, vs[i]? = some v →
    ∃ p f, ps[i]? = some p ∧ Rp S h v p f ∧ ∀ b ∈ f, b ∈ fp
  | _, _, _, .nil, _, _, e => by simp at e
  | _, _, _, .cons (p := p) (f1 := f1) a b, 0, v, e => by
    simp at e; subst e
    exact ⟨p, f1, rfl, a, fun x hx => List.mem_append_left _ hx⟩
  | _, _, _, .cons a b, i + 1, v, e => by
    simp at e
    obtain ⟨p, f, e1, r, k⟩ := Rps.get' b e
    exact ⟨p, f, by simpa using e1, r, fun x hx => List.mem_append_right _ (k x hx)⟩

theorem Rps.append {S : Sys} {h : Heap} : ∀ {vs : List Value} {ps : List PV} {fp : List Addr}, Rps S h vs ps fp → ∀ {vs' : List Value} {ps' : List PV} {fp' : List Addr}, Rps S h vs' ps' fp' → Rps S h (vs ++ vs') (ps ++ ps') (fp ++ fp')
  | _, _, _, .nil, _, _, _, r => r
  | _, _, _, .cons a b, _, _, _, r => by rw [List.append_assoc]; exact .cons a (Rps.append b r)

inductive Own where
  | imm | mut | frz
  deriving DecidableEq

noncomputable abbrev Ro := List (Option (PV × Own))

noncomputable def Reads (env : Env) (h : Heap) (x : Str) (v : Value) : Prop :=
  (env.kindOf x = some .local ∧ ∃ m, h.Ns env.locals m ∧ m x = some v) ∨
  ((env.kindOf x = some .cell ∨ (env.kindOf x = some .free ∧ (x == ("__classdict__" : Str)) = false)) ∧ ∃ c, env.cells.lookup x = some c ∧ h.IsCell c (some v))

theorem loadCF {M : Model} {A : Around} {E : Value → Shared → Prop} {s : Shared} {env : Env} {name : Str} {c : Addr} {v : Value} {Q : Value → Shared → Prop} (hk : env.scope.kind = .function)
    (hl : env.kindOf name = some .cell ∨ (env.kindOf name = some .free ∧ (name == ("__classdict__" : Str)) = false)) (hc : env.cells.lookup name = some c) (hv : s.heap.IsCell c (some v)) (h : Q v s) : wpAny M A (loadName env name) Q E s := by
  rcases hl with hl | ⟨hl, hn⟩
  · exact wpAny_loadName_cell hk hl hc hv h
  · exact wpAny_loadName_free hk hl hc hv h hn

noncomputable def isCellOf (env : Env) (b : Addr) : Prop := ∃ n, env.cells.lookup n = some b

structure Var (S : Sys) (base : Heap) (env : Env) (h : Heap) (ρ : Ro) (rt : Nat → Addr) (i : Nat) (x : Str) (p : PV) (k : Own) (v : Value) (fp : List Addr) : Prop where
  rd : Reads env h x v
  rp : Rp S h v p fp
  loc : ∀ b ∈ fp, b ≠ env.locals ∧ ¬ isCellOf env b
  own : k ≠ .imm → v = .ref (rt i) ∧ (∀ b ∈ fp, base.get? b = none) ∧ (∃ ob, h.get? (rt i) = some ob ∧ ob.dict = none ∧ ∀ vs, ob.data ≠ .fields vs) ∧ ∃ fp', fp = rt i :: fp' ∧ rt i ∉ fp'
  sep : ∀ j q k', ρ[j]? = some (some (q, k')) → k' ≠ .imm → j ≠ i → rt j ∉ fp

structure Fm (S : Sys) (sc : Scope) (ns : List Str) (base : Heap) (env : Env) (h : Heap) (ρ : Ro) (rt : Nat → Addr) : Prop where
  gd : Gd S h
  kind : env.scope.kind = .function
  kinds : ∀ x, env.kindOf x = sc.names.lookup x ∨ (sc.names.lookup x = some .free ∧ env.kindOf x = some .cell)
  glob : env.globals = mainGlobals
  blt : env.builtins = builtinsNs
  top : ∀ b o, S.hT.get? b = some o → ∃ o', base.get? b = some o'
  alive : ∀ b o, base.get? b = some o → ∃ o', h.get? b = some o'
  nsB : base.get? env.locals = none
  ns1 : ∃ m, h.Ns env.locals m
  cellB : ∀ c, isCellOf env c → base.get? c = none ∧ ∃ v, h.IsCell c v
  cellInj : ∀ n n' c, env.cells.lookup n = some c → env.cells.lookup n' = some c → n = n'
  cellsAll : ∀ x, sc.names.lookup x = some .cell → (env.cells.lookup x).isSome = true
  len : ρ.length ≤ ns.length
  vars : ∀ i x p k, ns[i]? = some x → ρ[i]? = some (some (p, k)) → ∃ v fp, Var S base env h ρ rt i x p k v fp

theorem Fm.name {S : Sys} {sc : Scope} {ns : List Str} {base h : Heap} {env : Env} {ρ : Ro} {rt : Nat → Addr} (F : Fm S sc ns base env h ρ rt) {i : Nat} {q : Option (PV × Own)} (e : ρ[i]? = some q) : ∃ x, ns[i]? = some x := by
  have h1 : i < ρ.length := (List.getElem?_eq_some_iff.mp e).1
  have h2 : i < ns.length := Nat.lt_of_lt_of_le h1 F.len
  exact ⟨_, List.getElem?_eq_getElem h2⟩

noncomputable def KeepB (S : Sys) (b : Bool) (own : Addr → Prop) (h h' : Heap) : Prop := ∀ x o, ¬ own x → (b = true ∨ x ∉ S.TB) → h.get? x = some o → h'.get? x = some o

noncomputable def Kp (S : Sys) (b : Bool) (s s' : Shared) : Prop := ∃ h' tk, s' = { s with heap := h', toks := tk } ∧ KeepB S b (fun _ => False) s.heap h' ∧ Gd S h'

theorem Kp.refl {S : Sys} {b : Bool} {s : Shared} (G : Gd S s.heap) : Kp S b s s := ⟨s.heap, s.toks, rfl, fun _ _ _ _ e => e, G⟩
theorem Kp.trans {S : Sys} {b : Bool} {s s' s'' : Shared} (x : Kp S b s s') (y : Kp S b s' s'') : Kp S b s s'' := by
  obtain ⟨h, tk, rfl, k, _⟩ := x
  obtain ⟨h', tk', rfl, k', g'⟩ := y
  exact ⟨h', tk', rfl, fun x o a b e => k' x o a b (k x o a b e), g'⟩
theorem Kp.weak {S : Sys} {b : Bool} {s s' : Shared} (x : Kp S true s s') : Kp S b s s' := by
  obtain ⟨h, tk, rfl, k, g⟩ := x
  exact ⟨h, tk, rfl, fun x o a _ e => k x o a (.inl rfl) e, g⟩
theorem Kp.toks {S : Sys} {b : Bool} {s s' : Shared} (x : Kp S b s s') (tk : Nat) : Kp S b s { s' with toks := tk } := by
  obtain ⟨h, tk', rfl, k, g⟩ := x
  exact ⟨h, tk, rfl, k, g⟩
theorem Kp.gd {S : Sys} {b : Bool} {s s' : Shared} (x : Kp S b s s') : Gd S s'.heap := by
  obtain ⟨h, tk, rfl, k, g⟩ := x
  exact g
theorem Kp.keep {S : Sys} {b : Bool} {s s' : Shared} (x : Kp S b s s') : ∀ a o, a ∉ S.TB → s.heap.get? a = some o → s'.heap.get? a = some o := by
  obtain ⟨h, tk, rfl, k, g⟩ := x
  exact fun a o ha e => k a o id (.inr ha) e
theorem Kp.keeps {S : Sys} {s s' : Shared} (x : Kp S true s s') : ∀ a o, s.heap.get? a = some o → s'.heap.get? a = some o := by
  obtain ⟨h, tk, rfl, k, g⟩ := x
  exact fun a o e => k a o id (.inl rfl) e

theorem TabOk.keeps {S : Sys} {h h' : Heap} (G : TabOk S h) (k : ∀ b o, h.get? b = some o → h'.get? b = some o) : TabOk S h' := fun t ht => by
  obtain ⟨ps, e, r⟩ := G t ht
  refine ⟨ps, k _ _ e, r.imp id fun ⟨c', e1, e2⟩ => ⟨c', e1, e2.keeps k⟩⟩
theorem Gd.keeps {S : Sys} {h h' : Heap} (G : Gd S h) (k : ∀ b o, h.get? b = some o → h'.get? b = some o) : Gd S h' :=
  ⟨fun b o hb e => k _ _ (G.top b o hb e), G.tab.keeps k⟩
theorem Kp.of_keeps {S : Sys} {b : Bool} {s : Shared} {h' : Heap} {tk : Nat} (G : Gd S s.heap) (k : ∀ a o, s.heap.get? a = some o → h'.get? a = some o) : Kp S b s { s with heap := h', toks := tk } :=
  ⟨h', tk, rfl, fun x o _ _ e => k x o e, G.keeps k⟩


theorem TabOk.alive {S : Sys} {h h' : Heap} (G : Gd S h') (k : ∀ a o, a ∉ S.TB → h.get? a = some o → h'.get? a = some o) : ∀ a o, h.get? a = some o → ∃ o', h'.get? a = some o' := fun a o e => by
  by_cases ha : a ∈ S.TB
  · obtain ⟨ps, e'⟩ := tb_data G.tab ha; exact ⟨_, e'⟩
  · exact ⟨o, k a o ha e⟩

theorem Ns.notTB {S : Sys} {h : Heap} {a : Addr} {m : Str → Option Value} (G : Gd S h) (n : h.Ns a m) : a ∉ S.TB := fun ha => by
  obtain ⟨ps, e⟩ := tb_data G.tab ha
  obtain ⟨o, es, ep, e1, e2, _⟩ := n
  rw [e] at e1; cases e1; cases e2
theorem IsCell.notTB {S : Sys} {h : Heap} {a : Addr} {v : Option Value} (G : Gd S h) (n : h.IsCell a v) : a ∉ S.TB := fun ha => by
  obtain ⟨ps, e⟩ := tb_data G.tab ha
  obtain ⟨o, e1, e2⟩ := n
  rw [e] at e1; cases e1; cases e2
theorem IsCell.at' {h h' : Heap} {c : Addr} {v : Option Value} (x : h.IsCell c v) (e : ∀ o, h.get? c = some o → h'.get? c = some o) : h'.IsCell c v := let ⟨o, a, b⟩ := x; ⟨o, e _ a, b⟩

theorem Fm.nsTB {S : Sys} {sc : Scope} {ns : List Str} {base h : Heap} {env : Env} {ρ : Ro} {rt : Nat → Addr} (F : Fm S sc ns base env h ρ rt) : env.locals ∉ S.TB :=
  let ⟨_, n⟩ := F.ns1; Ns.notTB F.gd n

theorem Reads.grow {S : Sys} {env : Env} {h h' : Heap} {x : Str} {v : Value} (G : Gd S h) (k : ∀ a o, a ∉ S.TB → h.get? a = some o → h'.get? a = some o) (r : Reads env h x v) : Reads env h' x v := by
  rcases r with ⟨a, m, n, e⟩ | ⟨a, c, e, n⟩
  · exact .inl ⟨a, m, n.at' fun o ho => k _ o (Ns.notTB G n) ho, e⟩
  · exact .inr ⟨a, c, e, IsCell.at' n fun o ho => k _ o (IsCell.notTB G n) ho⟩

theorem Fm.grow {S : Sys} {sc : Scope} {ns : List Str} {base h h' : Heap} {env : Env} {ρ : Ro} {rt : Nat → Addr} (F : Fm S sc ns base env h ρ rt)
    (k : ∀ a o, a ∉ S.TB → h.get? a = some o → h'.get? a = some o) (g : Gd S h') : Fm S sc ns base env h' ρ rt where
  gd := g
  kind := F.kind
  kinds := F.kinds
  glob := F.glob
  blt := F.blt
  top := F.top
  alive := fun b o e => let ⟨o', e'⟩ := F.alive b o e; TabOk.alive g k b o' e'
  nsB := F.nsB
  ns1 := let ⟨m, n⟩ := F.ns1; ⟨m, n.at' fun o ho => k _ o F.nsTB ho⟩
  cellB := fun c hc => let ⟨a, v, n⟩ := F.cellB c hc; ⟨a, v, IsCell.at' n fun o ho => k _ o (IsCell.notTB F.gd n) ho⟩
  cellInj := F.cellInj
  cellsAll := F.cellsAll
  len := F.len
  vars := fun i x p q e1 e2 => by
    obtain ⟨v, fp, V⟩ := F.vars i x p q e1 e2
    refine ⟨v, fp, V.rd.grow F.gd k, V.rp.mono fun b hb o e => k b o (V.rp.lives b hb).1 e, V.loc, fun hq => ?_, V.sep⟩
    obtain ⟨a1, a2, ⟨ob, a3, a4⟩, a5⟩ := V.own hq
    obtain ⟨fp', a6, a7⟩ := a5
    exact ⟨a1, a2, ⟨ob, k _ _ (V.rp.lives _ (by rw [a6]; exact .head _)).1 a3, a4⟩, fp', a6, a7⟩

theorem Fm.kp {S : Sys} {sc : Scope} {ns : List Str} {base : Heap} {s s' : Shared} {b : Bool} {env : Env} {ρ : Ro} {rt : Nat → Addr} (F : Fm S sc ns base env s.heap ρ rt) (k : Kp S b s s') : Fm S sc ns base env s'.heap ρ rt :=
  F.grow k.keep k.gd

noncomputable def ownOf (env : Env) (ρ : Ro) (rt : Nat → Addr) (x : Addr) : Prop := x = env.locals ∨ isCellOf env x ∨ ∃ i p, ρ[i]? = some (some (p, Own.mut)) ∧ rt i = x

noncomputable def Clean (env : Env) (ρ : Ro) (rt : Nat → Addr) (fp : List Addr) : Prop := ∀ b ∈ fp, b ≠ env.locals ∧ ¬ isCellOf env b ∧ ∀ j q k, ρ[j]? = some (some (q, k)) → k ≠ .imm → rt j ≠ b

inductive Md where
  | R | N | C | F

noncomputable def MdOk : Md → Shared → Env → Ro → (Nat → Addr) → List Addr → Prop
  | .R, _, _, _, _, _ => True
  | .N, _, env, ρ, rt, fp => ∀ b ∈ fp, ¬ ownOf env ρ rt b
  | .C, _, env, ρ, rt, fp => Clean env ρ rt fp
  | .F, s, _, _, _, fp => ∀ b ∈ fp, s.heap.get? b = none

theorem MdOk.nil {q : Md} {s : Shared} {env : Env} {ρ : Ro} {rt : Nat → Addr} : MdOk q s env ρ rt [] := by
  cases q with
  | R => trivial
  | N => intro b hb; cases hb
  | C => intro b hb; cases hb
  | F => intro b hb; cases hb

theorem Clean.fresh {S : Sys} {sc : Scope} {ns : List Str} {base : Heap} {s : Shared} {env : Env} {ρ : Ro} {rt : Nat → Addr} {fp : List Addr} (F : Fm S sc ns base env s.heap ρ rt) (hf : ∀ b ∈ fp, s.heap.get? b = none) : Clean env ρ rt fp := by
  intro b hb
  have hb' := hf b hb
  refine ⟨?_, ?_, ?_⟩
  · rintro rfl
    obtain ⟨m, o, _, _, e, _⟩ := F.ns1
    rw [hb'] at e; cases e
  · intro hc
    obtain ⟨_, v, o, e, _⟩ := F.cellB b hc
    rw [hb'] at e; cases e
  · intro j q k e hk hr
    obtain ⟨x, ex⟩ := F.name e
    obtain ⟨v, fp', V⟩ := F.vars j x q k ex e
    obtain ⟨_, _, ⟨ob, e', _⟩, _⟩ := V.own hk
    rw [hr, hb'] at e'; cases e'

structure Room (d : Nat) (A : Around) : Prop where
  hd : A.handled = none
  depth : A.depth + d < recursionLimit
  units : A.units + 4 * d + 120 < cLine

theorem Room.lt {d : Nat} {A : Around} (r : Room d A) : A.depth < recursionLimit := by have := r.depth; (first | lia | omega)
theorem Room.u {d : Nat} {A : Around} (r : Room d A) : A.units < cLine := by have := r.units; (first | lia | omega)

noncomputable abbrev No : Value → Shared → Prop := fun _ _ => False

noncomputable def Ev (S : Sys) (sc : Scope) (ns : List Str) (b : Bool) (d : Nat) (q : Md) (ρ : Ro) (e : Expr) (p : PV) : Prop :=
  ∀ (A : Around) (base : Heap) (env : Env) (s : Shared) (rt : Nat → Addr) (Q : Value → Shared → Prop), Room d A → Fm S sc ns base env s.heap ρ rt →
    (∀ v s' fp, Kp S b s s' → Rp S s'.heap v p fp → MdOk q s env ρ rt fp → Q v s') → wpAny (model S.prog S.w) A (eval e env) Q No s

noncomputable def Tr (S : Sys) (sc : Scope) (ns : List Str) (b : Bool) (d : Nat) (ρ : Ro) (e : Expr) (t : Bool) : Prop :=
  ∀ (A : Around) (base : Heap) (env : Env) (s : Shared) (rt : Nat → Addr) (Q : Bool → Shared → Prop), Room d A → Fm S sc ns base env s.heap ρ rt →
    (∀ s', Kp S b s s' → Q t s') → wpAny (model S.prog S.w) A (isTrue e env (eval e env)) Q No s

inductive Out where
  | next (ρ : Ro)
  | brk (ρ : Ro)
  | cont (ρ : Ro)
  | ret (p : PV)

noncomputable def RootOk (ρ : Ro) (rt : Nat → Addr) (h : Heap) (ρ' : Ro) (rt' : Nat → Addr) : Prop :=
  ∀ i p k, ρ'[i]? = some (some (p, k)) → k ≠ .imm → (rt' i = rt i ∧ ∃ p', ρ[i]? = some (some (p', k))) ∨ h.get? (rt' i) = none

structure Stp (S : Sys) (b : Bool) (env : Env) (ρ : Ro) (rt : Nat → Addr) (s s' : Shared) : Prop where
  same : ∃ h' tk, s' = { s with heap := h', toks := tk }
  keep : KeepB S b (ownOf env ρ rt) s.heap s'.heap
  alive : ∀ x o, s.heap.get? x = some o → ∃ o', s'.heap.get? x = some o'

noncomputable def NextIs (S : Sys) (sc : Scope) (ns : List Str) (b : Bool) (base : Heap) (env : Env) (ρ : Ro) (rt : Nat → Addr) (s s' : Shared) (ρ' : Ro) : Prop :=
  Stp S b env ρ rt s s' ∧ ∃ rt', RootOk ρ rt s.heap ρ' rt' ∧ Fm S sc ns base env s'.heap ρ' rt'

noncomputable def OutIs (S : Sys) (sc : Scope) (ns : List Str) (b : Bool) (base : Heap) (env : Env) (ρ : Ro) (rt : Nat → Addr) (s : Shared) (f : Flow) (s' : Shared) : Out → Prop
  | .next ρ' => f = .next ∧ NextIs S sc ns b base env ρ rt s s' ρ'
  | .brk ρ' => f = .brk ∧ NextIs S sc ns b base env ρ rt s s' ρ'
  | .cont ρ' => f = .cont ∧ NextIs S sc ns b base env ρ rt s s' ρ'
  | .ret p => ∃ v fp, f = .ret v ∧ Stp S b env ρ rt s s' ∧ Gd S s'.heap ∧ Rp S s'.heap v p fp ∧ ∀ x ∈ fp, base.get? x = none

noncomputable def Sx (S : Sys) (sc : Scope) (ns : List Str) (b : Bool) (d : Nat) (ρ : Ro) (stmts : List Stmt) (Φ : Out → Prop) : Prop :=
  ∀ (A : Around) (base : Heap) (env : Env) (s : Shared) (rt : Nat → Addr) (Q : Flow → Shared → Prop), Room d A → Fm S sc ns base env s.heap ρ rt →
    (∀ o f s', Φ o → OutIs S sc ns b base env ρ rt s f s' o → Q f s') → wpAny (model S.prog S.w) A (execs stmts env) Q No s

noncomputable def S1 (S : Sys) (sc : Scope) (ns : List Str) (b : Bool) (d : Nat) (ρ : Ro) (st : Stmt) (Φ : Out → Prop) : Prop :=
  ∀ (A : Around) (base : Heap) (env : Env) (s : Shared) (rt : Nat → Addr) (Q : Flow → Shared → Prop), Room d A → Fm S sc ns base env s.heap ρ rt →
    (∀ o f s', Φ o → OutIs S sc ns b base env ρ rt s f s' o → Q f s') → wpAny (model S.prog S.w) A (exec st env) Q No s
end Mine
open PySem PySem.Calls PyProof.Rows PySem.W
set_option Elab.async false
namespace Mine

structure Sys.Ok (S : Sys) (mg mb : Str → Option Value) : Prop where
  gdT : Gd S S.hT
  nolimit : S.hT.NoLimit
  g : S.hT.Ns mainGlobals mg
  b : S.hT.Ns builtinsNs mb
  blt : ∀ x : Str, x ≠ "__name__" → mb x = bootBuiltins x

section
variable {S : Sys} {sc : Scope} {ns : List Str} {base : Heap} {env : Env} {s s' : Shared} {ρ : Ro} {rt : Nat → Addr} {b : Bool} {d : Nat} {q : Md} {p p1 p2 : PV} {mg mb : Str → Option Value}

theorem Sys.Ok.nsAt {S : Sys} {mg mb m : Str → Option Value} {h : Heap} {a : Addr} (W : S.Ok mg mb) (G : Gd S h) (n : S.hT.Ns a m) : h.Ns a m := n.at' fun o e => G.top _ o (Ns.notTB W.gdT n) e
theorem Sys.Ok.lim {S : Sys} {mg mb : Str → Option Value} {h : Heap} (W : S.Ok mg mb) (G : Gd S h) : h.NoLimit := let ⟨mc, n, e⟩ := W.nolimit; ⟨mc, W.nsAt G n, e⟩

theorem MdOk.ofF {fp : List Addr} (F : Fm S sc ns base env s.heap ρ rt) (hf : ∀ x ∈ fp, s.heap.get? x = none) : ∀ q : Md, MdOk q s env ρ rt fp
  | .R => trivial
  | .F => hf
  | .C => Clean.fresh F hf
  | .N => fun x hx ho => by
    have c := Clean.fresh F hf x hx
    rcases ho with ho | ho | ⟨i, p, e, hr⟩
    · exact c.1 ho
    · exact c.2.1 ho
    · exact c.2.2 i p .mut e (by intro h; cases h) hr

theorem Kp.dead {a : Addr} (k : Kp S b s s') (e : s'.heap.get? a = none) : s.heap.get? a = none := by
  cases h : s.heap.get? a with
  | none => rfl
  | some o =>
    obtain ⟨o', e'⟩ := TabOk.alive k.gd k.keep a o h
    rw [e] at e'; cases e'

noncomputable def Post (S : Sys) (b : Bool) (s : Shared) (p : PV) (Q : Value → Shared → Prop) : Prop :=
  ∀ v s' fp, Kp S b s s' → Rp S s'.heap v p fp → (∀ x ∈ fp, s.heap.get? x = none) → Q v s'

noncomputable def Op1 (S : Sys) (b : Bool) (d : Nat) (t : Value → Sem Value) (p1 p : PV) : Prop :=
  ∀ (A : Around) (s : Shared) (v1 : Value) (f1 : List Addr) (Q : Value → Shared → Prop), Room d A → Gd S s.heap → Rp S s.heap v1 p1 f1 →
    Post S b s p Q → wpAny (model S.prog S.w) A (t v1) Q No s
noncomputable def Op2 (S : Sys) (b : Bool) (d : Nat) (t : Value → Value → Sem Value) (p1 p2 p : PV) : Prop :=
  ∀ (A : Around) (s : Shared) (v1 v2 : Value) (f1 f2 : List Addr) (Q : Value → Shared → Prop), Room d A → Gd S s.heap → Rp S s.heap v1 p1 f1 → Rp S s.heap v2 p2 f2 →
    Post S b s p Q → wpAny (model S.prog S.w) A (t v1 v2) Q No s

theorem Post.int {i : Int} {t : Tok} {tk : Nat} {Q : Value → Shared → Prop} (G : Gd S s.heap) (h : Post S b s (.int i) Q) : Q (.int i t) { s with toks := tk } :=
  h _ _ [] ((Kp.refl G).toks tk) (.int i t) (fun x hx => by cases hx)
theorem Post.bool {c : Bool} {tk : Nat} {Q : Value → Shared → Prop} (G : Gd S s.heap) (h : Post S b s (.bool c) Q) : Q (.bool c) { s with toks := tk } :=
  h _ _ [] ((Kp.refl G).toks tk) (.bool c) (fun x hx => by cases hx)
theorem Post.str {x : Str} {t : Tok} {tk : Nat} {Q : Value → Shared → Prop} (G : Gd S s.heap) (h : Post S b s (.str x) Q) : Q (.str x t) { s with toks := tk } :=
  h _ _ [] ((Kp.refl G).toks tk) (.str x t) (fun x hx => by cases hx)
theorem Post.kpInt {i : Int} {t : Tok} {Q : Value → Shared → Prop} (k : Kp S b s s') (h : Post S b s (.int i) Q) : Q (.int i t) s' := h _ _ [] k (.int i t) (fun x hx => by cases hx)
theorem Post.kpStr {x : Str} {t : Tok} {Q : Value → Shared → Prop} (k : Kp S b s s') (h : Post S b s (.str x) Q) : Q (.str x t) s' := h _ _ [] k (.str x t) (fun x hx => by cases hx)
theorem Post.kpBool {c : Bool} {Q : Value → Shared → Prop} (k : Kp S b s s') (h : Post S b s (.bool c) Q) : Q (.bool c) s' := h _ _ [] k (.bool c) (fun x hx => by cases hx)

theorem Ev.op2 {l r : Expr} {op : Operator} {pos : Pos} {q1 q2 : Md} (h1 : Ev S sc ns b d q1 ρ l p1) (h2 : Ev S sc ns b d q2 ρ r p2) (o : Op2 S b d (binaryOp op) p1 p2 p) : Ev S sc ns b d q ρ (.BinOp l op r pos) p := by
  intro A base env s rt Q R F hQ
  refine wpAny_BinOp (h1 A base env s rt _ R F fun v1 s1 f1 k1 r1 _ => ?_)
  refine h2 A base env s1 rt _ R (F.kp k1) fun v2 s2 f2 k2 r2 _ => ?_
  refine o A s2 v1 v2 f1 f2 Q R k2.gd (r1.mono fun x hx o e => k2.keep x o (r1.lives x hx).1 e) r2 fun v s3 fp k3 r3 hf => ?_
  exact hQ v s3 fp ((k1.trans k2).trans k3) r3 (MdOk.ofF F (fun x hx => k1.dead (k2.dead (hf x hx))) q)

theorem Ev.cmp {l r : Expr} {op : CmpOp} {pos : Pos} {q1 q2 : Md} (h1 : Ev S sc ns b d q1 ρ l p1) (h2 : Ev S sc ns b d q2 ρ r p2) (o : Op2 S b d (compareOp op) p1 p2 p)
    (hm : behindInMarks op r = false := by with_unfolding_all rfl) : Ev S sc ns b d q ρ (.Compare l [op] [r] pos) p := by
  intro A base env s rt Q R F hQ
  refine wpAny_Compare1 (h1 A base env s rt _ R F fun v1 s1 f1 k1 r1 _ => ?_) hm
  refine h2 A base env s1 rt _ R (F.kp k1) fun v2 s2 f2 k2 r2 _ => ?_
  refine o A s2 v1 v2 f1 f2 Q R k2.gd (r1.mono fun x hx o e => k2.keep x o (r1.lives x hx).1 e) r2 fun v s3 fp k3 r3 hf => ?_
  exact hQ v s3 fp ((k1.trans k2).trans k3) r3 (MdOk.ofF F (fun x hx => k1.dead (k2.dead (hf x hx))) q)

theorem Tr.cmp {l r : Expr} {op : CmpOp} {pos : Pos} {q1 q2 : Md} {t : Bool} (h1 : Ev S sc ns b d q1 ρ l p1) (h2 : Ev S sc ns b d q2 ρ r p2) (o : Op2 S b d (compareOp op) p1 p2 (.bool t))
    (hm : behindInMarks op r = false := by with_unfolding_all rfl) : Tr S sc ns b d ρ (.Compare l [op] [r] pos) t := by
  intro A base env s rt Q R F hQ
  refine wpAny_isTrue_Compare1 (h1 A base env s rt _ R F fun v1 s1 f1 k1 r1 _ => ?_) hm
  refine h2 A base env s1 rt _ R (F.kp k1) fun v2 s2 f2 k2 r2 _ => ?_
  refine o A s2 v1 v2 f1 f2 _ R k2.gd (r1.mono fun x hx o e => k2.keep x o (r1.lives x hx).1 e) r2 fun v s3 fp k3 r3 hf => ?_
  (first | obtain ⟨_, rfl, rfl⟩ := r3.inv | cases r3)
  exact wpAny_truthy_bool (hQ s3 ((k1.trans k2).trans k3))

theorem Ev.un {x : Expr} {op : UnaryOp} {pos : Pos} {q1 : Md} (h1 : Ev S sc ns b d q1 ρ x p1) (o : Op1 S b d (unaryOp op) p1 p) : Ev S sc ns b d q ρ (.UnaryOp op x pos) p := by
  intro A base env s rt Q R F hQ
  refine wpAny_UnaryOp (h1 A base env s rt _ R F fun v1 s1 f1 k1 r1 _ => ?_)
  refine o A s1 v1 f1 Q R k1.gd r1 fun v s3 fp k3 r3 hf => ?_
  exact hQ v s3 fp (k1.trans k3) r3 (MdOk.ofF F (fun x hx => k1.dead (hf x hx)) q)

theorem Ev.cint {i : Int} {k : Nat} {pos : Pos} : Ev S sc ns b d q ρ (.Constant (.int i) k pos) (.int i) := by
  intro A base env s rt Q R F hQ
  exact wpAny_Constant_int (hQ _ _ [] ((Kp.refl F.gd).toks _) (.int i _) MdOk.nil)
theorem Ev.cstr {x : Str} {k : Nat} {pos : Pos} : Ev S sc ns b d q ρ (.Constant (.str x) k pos) (.str x) := by
  intro A base env s rt Q R F hQ
  exact wpAny_Constant_str (hQ _ _ [] ((Kp.refl F.gd).toks _) (.str x _) MdOk.nil)
theorem Ev.cbool {x : Bool} {k : Nat} {pos : Pos} : Ev S sc ns b d q ρ (.Constant (.bool x) k pos) (.bool x) := by
  intro A base env s rt Q R F hQ
  exact wpAny_Constant_bool (hQ _ _ [] (Kp.refl F.gd) (.bool x) MdOk.nil)

noncomputable def PV.atom : PV → Bool
  | .int _ | .bool _ | .none | .str _ => true
  | _ => false
theorem Rp.atomNil {h : Heap} {v : Value} {fp : List Addr} (r : Rp S h v p fp) (a : p.atom = true) : fp = [] := by
  (first | obtain ⟨_, rfl, rfl⟩ := r.inv | cases r) <;> first | rfl | cases a

noncomputable def varMd : Md → PV → Own → Bool
  | .R, _, _ => true
  | .N, p, k => p.atom || decide (k ≠ .mut)
  | .C, p, k => p.atom || decide (k = .imm)
  | .F, p, _ => p.atom

theorem Ev.var {x : Str} {pos : Pos} {k : Own} (i : Nat) (hn : ns[i]? = some x) (hρ : ρ[i]? = some (some (p, k))) (hq : varMd q p k = true) (hd : (x == ("__debug__" : Str)) = false := by decide) :
    Ev S sc ns b d q ρ (.Name x pos) p := by
  intro A base env s rt Q R F hQ
  obtain ⟨v, fp, V⟩ := F.vars i x p k hn hρ
  have fin : Q v s := by
    refine hQ v s fp (Kp.refl F.gd) V.rp ?_
    cases ha : p.atom with
    | true => rw [V.rp.atomNil ha]; exact MdOk.nil
    | false =>
      cases q with
      | R => trivial
      | F => rw [varMd, ha] at hq; cases hq
      | C =>
        have hk : k = .imm := by simpa [varMd, ha] using hq
        intro y hy
        refine ⟨(V.loc y hy).1, (V.loc y hy).2, fun j q' k' e hk' hr => ?_⟩
        by_cases hji : j = i
        · subst hji; rw [hρ] at e; cases e; exact hk' hk
        · exact V.sep j q' k' e hk' hji (hr ▸ hy)
      | N =>
        have hk : k ≠ .mut := by simpa [varMd, ha] using hq
        rintro y hy (ho | ho | ⟨j, q', e, hr⟩)
        · exact (V.loc y hy).1 ho
        · exact (V.loc y hy).2 ho
        · by_cases hji : j = i
          · subst hji; rw [hρ] at e; cases e; exact hk rfl
          · exact V.sep j q' .mut e (by intro h; cases h) hji (hr ▸ hy)
  rcases V.rd with ⟨a, m, n, e⟩ | ⟨a, c, e, n⟩
  · exact wpAny_Name (wpAny_loadName_local F.kind a n e fin) hd
  · exact wpAny_Name (loadCF F.kind a e n fin) hd

/-! ops on ints -/
theorem o_add {x y : Int} : Op2 S b d (binaryOp .Add) (.int x) (.int y) (.int (x + y)) := by
  intro A s v1 v2 f1 f2 Q R G r1 r2 h; (first | obtain ⟨_, rfl, rfl⟩ := r1.inv | cases r1); (first | obtain ⟨_, rfl, rfl⟩ := r2.inv | cases r2); exact PyProof.Rows.add_int (h.int G)
theorem o_sub {x y : Int} : Op2 S b d (binaryOp .Sub) (.int x) (.int y) (.int (x - y)) := by
  intro A s v1 v2 f1 f2 Q R G r1 r2 h; (first | obtain ⟨_, rfl, rfl⟩ := r1.inv | cases r1); (first | obtain ⟨_, rfl, rfl⟩ := r2.inv | cases r2); exact PyProof.Rows.sub_int (h.int G)
theorem o_mul {x y : Int} (hm : IntMulOk x y) : Op2 S b d (binaryOp .Mult) (.int x) (.int y) (.int (x * y)) := by
  intro A s v1 v2 f1 f2 Q R G r1 r2 h; (first | obtain ⟨_, rfl, rfl⟩ := r1.inv | cases r1); (first | obtain ⟨_, rfl, rfl⟩ := r2.inv | cases r2); exact PyProof.Rows.mul_int (h.int G) hm
theorem o_fdiv {x y : Int} (hy : y ≠ 0) (hp : y.natAbs.log2 < 9000) : Op2 S b d (binaryOp .FloorDiv) (.int x) (.int y) (.int (x.fdiv y)) := by
  intro A s v1 v2 f1 f2 Q R G r1 r2 h; (first | obtain ⟨_, rfl, rfl⟩ := r1.inv | cases r1); (first | obtain ⟨_, rfl, rfl⟩ := r2.inv | cases r2); exact PyProof.Rows.floordiv_int hy (h.int G) (.inl (PyProof.noPylong_of_log2 hp))
theorem o_mod {x y : Int} (hy : y ≠ 0) : Op2 S b d (binaryOp .Mod) (.int x) (.int y) (.int (x.fmod y)) := by
  intro A s v1 v2 f1 f2 Q R G r1 r2 h; (first | obtain ⟨_, rfl, rfl⟩ := r1.inv | cases r1); (first | obtain ⟨_, rfl, rfl⟩ := r2.inv | cases r2); exact PyProof.Rows.mod_int' hy (h.int G)
theorem o_pow {x y : Int} (hy : 0 ≤ y) (hsz : (Builtin.Int.intBits x : Int) * y ≤ 2 ^ 27) : Op2 S b d (binaryOp .Pow) (.int x) (.int y) (.int (x ^ y.toNat)) := by
  intro A s v1 v2 f1 f2 Q R G r1 r2 h; (first | obtain ⟨_, rfl, rfl⟩ := r1.inv | cases r1); (first | obtain ⟨_, rfl, rfl⟩ := r2.inv | cases r2); exact PyProof.Rows.pow_int hy hsz (h.int G)
theorem o_shl {x y : Int} (hy : 0 ≤ y) (hsz : (Builtin.Int.intBits x : Int) + y ≤ 2 ^ 27) : Op2 S b d (binaryOp .LShift) (.int x) (.int y) (.int (x * 2 ^ y.toNat)) := by
  intro A s v1 v2 f1 f2 Q R G r1 r2 h; (first | obtain ⟨_, rfl, rfl⟩ := r1.inv | cases r1); (first | obtain ⟨_, rfl, rfl⟩ := r2.inv | cases r2); exact PyProof.Rows.lshift_int hy hsz (h.int G)
theorem o_shr {x y : Int} (hy : 0 ≤ y) : Op2 S b d (binaryOp .RShift) (.int x) (.int y) (.int (x.fdiv (2 ^ y.toNat))) := by
  intro A s v1 v2 f1 f2 Q R G r1 r2 h; (first | obtain ⟨_, rfl, rfl⟩ := r1.inv | cases r1); (first | obtain ⟨_, rfl, rfl⟩ := r2.inv | cases r2); exact PyProof.Rows.rshift_int hy (h.int G)
theorem o_and {x y : Int} : Op2 S b d (binaryOp .BitAnd) (.int x) (.int y) (.int (Builtin.bitAnd x y)) := by
  intro A s v1 v2 f1 f2 Q R G r1 r2 h; (first | obtain ⟨_, rfl, rfl⟩ := r1.inv | cases r1); (first | obtain ⟨_, rfl, rfl⟩ := r2.inv | cases r2); exact PyProof.Rows.and_int (h.int G)
theorem o_xor {x y : Int} : Op2 S b d (binaryOp .BitXor) (.int x) (.int y) (.int (Builtin.bitXor x y)) := by
  intro A s v1 v2 f1 f2 Q R G r1 r2 h; (first | obtain ⟨_, rfl, rfl⟩ := r1.inv | cases r1); (first | obtain ⟨_, rfl, rfl⟩ := r2.inv | cases r2); exact PyProof.Rows.xor_int (h.int G)
theorem o_eq {x y : Int} : Op2 S b d (compareOp .Eq) (.int x) (.int y) (.bool (x == y)) := by
  intro A s v1 v2 f1 f2 Q R G r1 r2 h; (first | obtain ⟨_, rfl, rfl⟩ := r1.inv | cases r1); (first | obtain ⟨_, rfl, rfl⟩ := r2.inv | cases r2); exact PyProof.Rows.eq_int (h.kpBool (Kp.refl G))
theorem o_ne {x y : Int} : Op2 S b d (compareOp .NotEq) (.int x) (.int y) (.bool (x != y)) := by
  intro A s v1 v2 f1 f2 Q R G r1 r2 h; (first | obtain ⟨_, rfl, rfl⟩ := r1.inv | cases r1); (first | obtain ⟨_, rfl, rfl⟩ := r2.inv | cases r2); exact PyProof.Rows.ne_int (h.kpBool (Kp.refl G))
theorem o_lt {x y : Int} : Op2 S b d (compareOp .Lt) (.int x) (.int y) (.bool (decide (x < y))) := by
  intro A s v1 v2 f1 f2 Q R G r1 r2 h; (first | obtain ⟨_, rfl, rfl⟩ := r1.inv | cases r1); (first | obtain ⟨_, rfl, rfl⟩ := r2.inv | cases r2); exact PyProof.Rows.lt_int (h.kpBool (Kp.refl G))
theorem o_le {x y : Int} : Op2 S b d (compareOp .LtE) (.int x) (.int y) (.bool (decide (x ≤ y))) := by
  intro A s v1 v2 f1 f2 Q R G r1 r2 h; (first | obtain ⟨_, rfl, rfl⟩ := r1.inv | cases r1); (first | obtain ⟨_, rfl, rfl⟩ := r2.inv | cases r2); exact PyProof.Rows.le_int (h.kpBool (Kp.refl G))
theorem o_neg {x : Int} : Op1 S b d (unaryOp .USub) (.int x) (.int (-x)) := by
  intro A s v1 f1 Q R G r1 h; (first | obtain ⟨_, rfl, rfl⟩ := r1.inv | cases r1); exact PyProof.Rows.neg_int (h.int G)
theorem o_inv {x : Int} : Op1 S b d (unaryOp .Invert) (.int x) (.int (Builtin.bitNot x)) := by
  intro A s v1 f1 Q R G r1 h; (first | obtain ⟨_, rfl, rfl⟩ := r1.inv | cases r1); exact PyProof.Rows.invert_int (h.int G)
theorem o_sne {x y : Str} : Op2 S b d (compareOp .NotEq) (.str x) (.str y) (.bool (x != y)) := by
  intro A s v1 v2 f1 f2 Q R G r1 r2 h; (first | obtain ⟨_, rfl, rfl⟩ := r1.inv | cases r1); (first | obtain ⟨_, rfl, rfl⟩ := r2.inv | cases r2); exact PyProof.Rows.ne_str (h.kpBool (Kp.refl G))
theorem o_seq {x y : Str} : Op2 S b d (compareOp .Eq) (.str x) (.str y) (.bool (x == y)) := by
  intro A s v1 v2 f1 f2 Q R G r1 r2 h; (first | obtain ⟨_, rfl, rfl⟩ := r1.inv | cases r1); (first | obtain ⟨_, rfl, rfl⟩ := r2.inv | cases r2); exact PyProof.Rows.eq_str (h.kpBool (Kp.refl G))
end
end Mine
open PySem PySem.Calls PyProof.Rows PySem.W
set_option Elab.async false
namespace Mine
section
variable {S : Sys} {sc : Scope} {ns : List Str} {base : Heap} {env : Env} {s s' : Shared} {ρ : Ro} {rt : Nat → Addr} {b : Bool} {d : Nat} {q : Md} {p p1 p2 : PV} {mg mb : Str → Option Value}

noncomputable def Evs (S : Sys) (sc : Scope) (ns : List Str) (b : Bool) (d : Nat) (q : Md) (ρ : Ro) (es : List Expr) (ps : List PV) : Prop :=
  ∀ (A : Around) (base : Heap) (env : Env) (s : Shared) (rt : Nat → Addr) (pos : Pos) (Q : List Value → Shared → Prop), Room d A → Fm S sc ns base env s.heap ρ rt →
    (∀ vs s' fp, Kp S b s s' → Rps S s'.heap vs ps fp → MdOk q s env ρ rt fp → Q vs s') → wpAny (model S.prog S.w) A (spliced (backTo pos (starEach es env))) Q No s

theorem MdOk.append {f1 f2 : List Addr} (h1 : MdOk q s env ρ rt f1) (h2 : MdOk q s env ρ rt f2) : MdOk q s env ρ rt (f1 ++ f2) := by
  cases q with
  | R => trivial
  | N => exact fun x hx => (List.mem_append.mp hx).elim (h1 x) (h2 x)
  | C => exact fun x hx => (List.mem_append.mp hx).elim (h1 x) (h2 x)
  | F => exact fun x hx => (List.mem_append.mp hx).elim (h1 x) (h2 x)
theorem MdOk.back {fp : List Addr} (k : Kp S b s s') (h : MdOk q s' env ρ rt fp) : MdOk q s env ρ rt fp := by
  cases q with
  | R => trivial
  | N => exact h
  | C => exact h
  | F => exact fun x hx => k.dead (h x hx)

theorem Evs.nil : Evs S sc ns b d q ρ [] [] := by
  intro A base env s rt pos Q R F hQ
  exact spliced_nil (hQ [] s [] (Kp.refl F.gd) .nil MdOk.nil)
theorem Evs.cons {e : Expr} {es : List Expr} {ps : List PV} (h1 : Ev S sc ns b d q ρ e p) (h2 : Evs S sc ns b d q ρ es ps)
    (he : ∀ env, starEach (e :: es) env = (false, eval e env) :: starEach es env := by intro _; rfl) : Evs S sc ns b d q ρ (e :: es) (p :: ps) := by
  intro A base env s rt pos Q R F hQ
  refine wpAny_items_cons (h1 A base env s rt _ R F fun v s1 f1 k1 r1 m1 => ?_) (he env)
  refine h2 A base env s1 rt pos _ R (F.kp k1) fun vs s2 f2 k2 r2 m2 => ?_
  exact hQ (v :: vs) s2 (f1 ++ f2) (k1.trans k2) (.cons (r1.mono fun x hx o e => k2.keep x o (r1.lives x hx).1 e) r2) (m1.append (m2.back k1))

theorem Heap.push_keeps {h : Heap} (o : Obj) : ∀ a o', h.get? a = some o' → (h.push o).get? a = some o' := fun _ _ e => Heap.get?_push_of_some _ e
theorem fresh_size (h : Heap) : h.get? h.objs.size = none := by
  cases e : h.get? h.objs.size with
  | none => rfl
  | some o => exact absurd (Heap.lt_size e) (Nat.lt_irrefl _)
theorem fresh_ne {h : Heap} {a : Addr} {o : Obj} (e : h.get? a = some o) : a ≠ h.objs.size := fun h' => by rw [h', fresh_size] at e; cases e
theorem size_notTB {h : Heap} (G : Gd S h) : h.objs.size ∉ S.TB := fun hm => by
  obtain ⟨ps, e⟩ := tb_data G.tab hm
  rw [fresh_size] at e; cases e

theorem newListPost {vs : List Value} {ps : List PV} {fp : List Addr} (G : Gd S s.heap) (r : Rps S s.heap vs ps fp) :
    Kp S b s { s with heap := s.heap.push { cls := .type "list", data := .seq vs.toArray } } ∧
    Rp S (s.heap.push { cls := .type "list", data := .seq vs.toArray }) (.ref s.heap.objs.size) (.list ps) (s.heap.objs.size :: fp) := by
  refine ⟨⟨_, s.toks, rfl, fun x o _ _ e => Heap.get?_push_of_some _ e, G.keeps (Heap.push_keeps _)⟩, .list (size_notTB G) ⟨_, Heap.get?_push_size _ rfl⟩ (r.mono fun x _ o e => Heap.get?_push_of_some _ e)⟩
theorem newTupPost {vs : List Value} {ps : List PV} {fp : List Addr} (G : Gd S s.heap) (r : Rps S s.heap vs ps fp) :
    Kp S b s { s with heap := s.heap.push { cls := .type "tuple", data := .seq vs.toArray } } ∧
    Rp S (s.heap.push { cls := .type "tuple", data := .seq vs.toArray }) (.ref s.heap.objs.size) (.tup ps) (s.heap.objs.size :: fp) := by
  refine ⟨⟨_, s.toks, rfl, fun x o _ _ e => Heap.get?_push_of_some _ e, G.keeps (Heap.push_keeps _)⟩, .tup (size_notTB G) ⟨_, Heap.get?_push_size _ rfl, rfl, _, rfl⟩ (r.mono fun x _ o e => Heap.get?_push_of_some _ e)⟩

theorem Ev.list {es : List Expr} {ps : List PV} {pos : Pos} (h : Evs S sc ns b d .F ρ es ps) (hsz : ps.length ≤ sizeLine := by decide) : Ev S sc ns b d q ρ (.List es pos) (.list ps) := by
  intro A base env s rt Q R F hQ
  refine wpAny_List (h A base env s rt pos _ R F fun vs s1 fp k1 r1 m1 => ?_)
  obtain ⟨k2, r2⟩ := newListPost (b := b) k1.gd r1
  refine ⟨by rw [r1.length]; exact hsz, hQ _ _ _ (k1.trans k2) r2 (MdOk.ofF F (fun x hx => ?_) q)⟩
  rcases List.mem_cons.mp hx with rfl | hx
  · exact k1.dead (fresh_size _)
  · exact m1 x hx
theorem Ev.tup {es : List Expr} {ps : List PV} {k : Nat} {pos : Pos} (h : Evs S sc ns b d .F ρ es ps) (hsz : ps.length ≤ sizeLine := by decide) : Ev S sc ns b d q ρ (.Tuple es k pos) (.tup ps) := by
  intro A base env s rt Q R F hQ
  refine wpAny_Tuple (h A base env s rt pos _ R F fun vs s1 fp k1 r1 m1 => ?_)
  obtain ⟨k2, r2⟩ := newTupPost (b := b) k1.gd r1
  refine ⟨by rw [r1.length]; exact hsz, hQ _ _ _ (k1.trans k2) r2 (MdOk.ofF F (fun x hx => ?_) q)⟩
  rcases List.mem_cons.mp hx with rfl | hx
  · exact k1.dead (fresh_size _)
  · exact m1 x hx

noncomputable def CallOk (S : Sys) (b : Bool) (d : Nat) (fv : Value) (ps : List PV) (p : PV) : Prop :=
  ∀ (A : Around) (s : Shared) (vs : List Value) (fp : List Addr) (Q : Value → Shared → Prop), Room d A → Gd S s.heap → Rps S s.heap vs ps fp →
    Post S b s p Q → wpAny (model S.prog S.w) A (call fv vs) Q No s

inductive GName (S : Sys) (sc : Scope) (f : Str) (fv : Value) : Prop
  | glob {mg mb : Str → Option Value} : S.Ok mg mb → sc.names.lookup f = some .globalImplicit → mg f = some fv → GName S sc f fv
  | blt {mg mb : Str → Option Value} : S.Ok mg mb → sc.names.lookup f = some .globalImplicit → mg f = none → bootBuiltins f = some fv → f ≠ "__name__" → GName S sc f fv

theorem GName.eval {A : Around} {f : Str} {fv : Value} {pos : Pos} {Q : Value → Shared → Prop} (n : GName S sc f fv) (F : Fm S sc ns base env s.heap ρ rt) (h : Q fv s) (hd : (f == ("__debug__" : Str)) = false) :
    wpAny (model S.prog S.w) A (eval (.Name f pos) env) Q No s := by
  have kd : ∀ {k}, sc.names.lookup f = some .globalImplicit → env.kindOf f = some k → k = .globalImplicit := fun e1 e2 => by
    rcases F.kinds f with h | ⟨h, _⟩
    · rw [e1, e2] at h; exact Option.some.inj h
    · rw [e1] at h; cases h
  have kd' : sc.names.lookup f = some .globalImplicit → env.kindOf f = some .globalImplicit := fun e1 => by
    rcases F.kinds f with h | ⟨h, _⟩
    · rw [h, e1]
    · rw [e1] at h; cases h
  cases n with
  | glob W e1 e2 => exact Name_function_global F.kind (kd' e1) (loadGlobal_global (F.glob ▸ W.nsAt F.gd W.g) e2 h) hd
  | blt W e1 e2 e3 e4 => exact Name_function_global F.kind (kd' e1) (loadGlobal_builtin (F.glob ▸ W.nsAt F.gd W.g) e2 (F.blt ▸ W.nsAt F.gd W.b) ((W.blt f e4).trans e3) h) hd

inductive Callee (S : Sys) : Value → Prop
  | blt (id : String) : Callee S (.builtin id)
  | type (T : String) : Callee S (.type T)
  | fn {a : Addr} {o : Obj} {fd : FuncData} : S.hT.get? a = some o → a ∉ S.TB → o.data = .func fd → Callee S (.ref a)

theorem callWith_ok {A : Around} {fv : Value} {pos : Pos} {e : Expr} {es : List Expr} {ps : List PV} {Q : Value → Shared → Prop} (c : Callee S fv) (ha : Evs S sc ns b d q ρ (e :: es) ps) (R : Room d A) (F : Fm S sc ns base env s.heap ρ rt)
    (he : starEach (e :: es) env = (false, eval e env) :: starEach es env) (hp : (backTo pos (starEach (e :: es) env)).any (·.1) = false)
    (h : ∀ vs s' fp, Kp S b s s' → Rps S s'.heap vs ps fp → wpAny (model S.prog S.w) A (call fv vs) Q No s') :
    wpAny (model S.prog S.w) A (callWith pos fv [] (backTo pos (starEach (e :: es) env)) []) Q No s := by
  have ev : ∀ f (Q' : Args → Shared → Prop), (∀ vs s' fp, Kp S b s s' → Rps S s'.heap vs ps fp → Q' ⟨vs, []⟩ s') → wpAny (model S.prog S.w) A (evalArgs f true (backTo pos (starEach (e :: es) env)) []) Q' No s := by
    intro f Q' hQ'
    have hb : backTo pos (starEach (e :: es) env) = (false, eval e env) :: backTo pos (starEach es env) := by rw [he]; rfl
    have := ha A base env s rt pos (fun vs s' => Q' ⟨vs, []⟩ s') R F fun vs s' fp k r _ => hQ' vs s' fp k r
    rw [hb] at this ⊢
    exact evalArgs_plain this
  cases c with
  | blt id => exact callWith_builtin hp (ev _ _ fun vs s' fp k r => h vs s' fp k r)
  | type T => exact PySem.callWith_type hp (ev _ _ fun vs s' fp k r => h vs s' fp k r)
  | fn e1 e2 e3 => exact callWith_function (ev _ _ fun vs s' fp k r => ⟨⟨k.gd.top _ _ e2 e1, e3⟩, h vs s' fp k r⟩)

theorem Ev.call {f : Str} {fv : Value} {np pos : Pos} {e : Expr} {es : List Expr} {ps : List PV} {q1 : Md} (n : GName S sc f fv) (c : Callee S fv) (ha : Evs S sc ns b d q1 ρ (e :: es) ps) (ho : CallOk S b d fv ps p)
    (hd : (f == ("__debug__" : Str)) = false := by decide)
    (he : ∀ env, starEach (e :: es) env = (false, eval e env) :: starEach es env := by intro _; rfl) (hp : ∀ env, (backTo pos (starEach (e :: es) env)).any (·.1) = false := by intro _; rfl) :
    Ev S sc ns b d q ρ (.Call (.Name f np) (e :: es) [] pos) p := by
  intro A base env s rt Q R F hQ
  refine wpAny_Call_NameR (n.eval F ?_ hd)
  refine callWith_ok c ha R F (he env) (hp env) fun vs s1 fp k1 r1 => ?_
  exact ho A s1 vs fp Q R k1.gd r1 fun v s3 fp k3 r3 hf => hQ v s3 fp (k1.trans k3) r3 (MdOk.ofF F (fun x hx => k1.dead (hf x hx)) q)

theorem Ev.meth {o : Expr} {name : Str} {apos pos : Pos} {e : Expr} {es : List Expr} {ps : List PV} {T id : String} {q0 q1 : Md} (pa : PlainAttrs T) (slot : Slot T name id) (hty : typeOf (.builtin id) = pure (.type "method_descriptor"))
    (h0 : Ev S sc ns b d q0 ρ o p1) (hT : ∀ (s : Shared) v fp, Rp S s.heap v p1 fp → s.TypeIs v T ∧ ∀ a, v = .ref a → ∃ ob, s.heap.get? a = some ob ∧ ob.dict = none)
    (ha : Evs S sc ns b d q1 ρ (e :: es) ps) (ho : CallOk S b d (.builtin id) (p1 :: ps) p)
    (hbase : ∀ env t, attributeBase o name env t = t := by intro _ _; rfl)
    (hfew : ∀ env, ((backTo pos (starEach (e :: es) env)).all (fun x => !x.1) && (backToKw pos (keywordEach [] env)).all (fun x => x.1.isSome)
      && decide ((e :: es).length + ([] : List Keyword).length + (if ([] : List Keyword).isEmpty then 0 else 1) < 30)) = true := by intro _; rfl)
    (hline : (apos.endLine == pos.line) = true := by rfl)
    (he : ∀ env, starEach (e :: es) env = (false, eval e env) :: starEach es env := by intro _; rfl)
    (hp : ∀ env, (backTo pos (starEach (e :: es) env)).any (·.1) = false := by intro _; rfl) :
    Ev S sc ns b d q ρ (.Call (.Attribute o name apos) (e :: es) [] pos) p := by
  intro A base env s rt Q R F hQ
  refine wpAny_Call_method (hbase env _) (hfew env) hline pa slot hty (h0 A base env s rt _ R F fun v0 s1 f0 k1 r0 _ => ?_)
  obtain ⟨t1, t2⟩ := hT s1 v0 f0 r0
  refine ⟨t1, t2, callWith_builtin (hp env) ?_⟩
  have fin : ∀ vs s2 f2, Kp S b s1 s2 → Rps S s2.heap vs ps f2 → wpAny (model S.prog S.w) A (PySem.call (.builtin id) ([v0] ++ vs) []) Q No s2 := fun vs s2 f2 k2 r2 => by
    refine ho A s2 (v0 :: vs) (f0 ++ f2) Q R k2.gd (.cons (r0.mono fun x hx o e => k2.keep x o (r0.lives x hx).1 e) r2) fun v s3 fp k3 r3 hf => ?_
    exact hQ v s3 fp ((k1.trans k2).trans k3) r3 (MdOk.ofF F (fun x hx => k1.dead (k2.dead (hf x hx))) q)
  have hb : backTo pos (starEach (e :: es) env) = (false, eval e env) :: backTo pos (starEach es env) := by rw [he env]; rfl
  have := ha A base env s1 rt pos (fun vs s' => wpAny (model S.prog S.w) A (PySem.call (.builtin id) ([v0] ++ vs) []) Q No s') R (F.kp k1) fun vs s' fp k r _ => fin vs s' fp k r
  rw [hb] at this ⊢
  exact evalArgs_plain this
theorem Ev.meth0 {o : Expr} {name : Str} {apos pos : Pos} {T id : String} {q0 : Md} (pa : PlainAttrs T) (slot : Slot T name id) (hty : typeOf (.builtin id) = pure (.type "method_descriptor"))
    (h0 : Ev S sc ns b d q0 ρ o p1) (hT : ∀ (s : Shared) v fp, Rp S s.heap v p1 fp → s.TypeIs v T ∧ ∀ a, v = .ref a → ∃ ob, s.heap.get? a = some ob ∧ ob.dict = none)
    (ho : CallOk S b d (.builtin id) [p1] p)
    (hbase : ∀ env t, attributeBase o name env t = t := by intro _ _; rfl)
    (hline : (apos.endLine == pos.line) = true := by rfl) :
    Ev S sc ns b d q ρ (.Call (.Attribute o name apos) [] [] pos) p := by
  intro A base env s rt Q R F hQ
  refine wpAny_Call_method (hbase env _) rfl hline pa slot hty (h0 A base env s rt _ R F fun v0 s1 f0 k1 r0 _ => ?_)
  obtain ⟨t1, t2⟩ := hT s1 v0 f0 r0
  refine ⟨t1, t2, callWith_builtin rfl (PySem.evalArgs_none ?_)⟩
  refine ho A s1 [v0] (f0 ++ []) Q R k1.gd (.cons r0 .nil) fun v s3 fp k3 r3 hf => ?_
  exact hQ v s3 fp (k1.trans k3) r3 (MdOk.ofF F (fun x hx => k1.dead (hf x hx)) q)
end
end Mine
open PySem PySem.Calls PyProof.Rows PySem.W
set_option Elab.async false
namespace Mine
section
variable {S : Sys} {sc : Scope} {ns : List Str} {base : Heap} {env : Env} {s s' : Shared} {ρ : Ro} {rt : Nat → Addr} {b : Bool} {d : Nat} {q : Md} {p p1 p2 : PV} {mg mb : Str → Option Value}

noncomputable abbrev PV.ints (l : List Int) : PV := .list (l.map .int)
noncomputable abbrev PV.strs (l : List Str) : PV := .list (l.map .str)

theorem Rps.ints {h : Heap} : ∀ {l : List Int} {vs : List Value} {fp : List Addr}, Rps S h vs (l.map .int) fp → IntsAre vs l ∧ fp = []
  | [], _, _, r => by (first | obtain ⟨_, rfl, rfl⟩ := r.inv | cases r); exact ⟨.nil, rfl⟩
  | i :: l, _, _, r => by
    rw [List.map_cons] at r
    cases r with
    | cons a b =>
      cases a
      obtain ⟨x, rfl⟩ := Rps.ints b
      exact ⟨.cons _ _ x, rfl⟩
theorem Rps.strs {h : Heap} : ∀ {l : List Str} {vs : List Value} {fp : List Addr}, Rps S h vs (l.map .str) fp → StrsAre vs l ∧ fp = []
  | [], _, _, r => by (first | obtain ⟨_, rfl, rfl⟩ := r.inv | cases r); exact ⟨.nil, rfl⟩
  | i :: l, _, _, r => by
    rw [List.map_cons] at r
    cases r with
    | cons a b =>
      cases a
      obtain ⟨x, rfl⟩ := Rps.strs b
      exact ⟨.cons _ _ x, rfl⟩
theorem Rps.ofInts {h : Heap} {l : List Int} {vs : List Value} (r : IntsAre vs l) : Rps S h vs (l.map .int) [] := by
  induction r with
  | nil => exact .nil
  | cons n t _ ih => exact .cons (f1 := []) (.int n t) ih
theorem Rps.ofStrs {h : Heap} {l : List Str} {vs : List Value} (r : StrsAre vs l) : Rps S h vs (l.map .str) [] := by
  induction r with
  | nil => exact .nil
  | cons n t _ ih => exact .cons (f1 := []) (.str n t) ih
theorem Rp.ints {h : Heap} {l : List Int} {v : Value} {fp : List Addr} (r : Rp S h v (.ints l) fp) : ∃ a vs, v = .ref a ∧ fp = [a] ∧ a ∉ S.TB ∧ h.IsList a vs.toArray ∧ IntsAre vs l := by
  cases r with
  | list h1 h2 h3 => obtain ⟨x, rfl⟩ := h3.ints; exact ⟨_, _, rfl, rfl, h1, h2.isList, x⟩
theorem Rp.strs {h : Heap} {l : List Str} {v : Value} {fp : List Addr} (r : Rp S h v (.strs l) fp) : ∃ a vs, v = .ref a ∧ fp = [a] ∧ a ∉ S.TB ∧ h.IsList a vs.toArray ∧ StrsAre vs l := by
  cases r with
  | list h1 h2 h3 => obtain ⟨x, rfl⟩ := h3.strs; exact ⟨_, _, rfl, rfl, h1, h2.isList, x⟩

theorem Rps.one {h : Heap} {vs : List Value} {fp : List Addr} (r : Rps S h vs [p] fp) : ∃ v, vs = [v] ∧ Rp S h v p fp := by
  cases r with
  | cons a b => cases b; rw [List.append_nil]; exact ⟨_, rfl, a⟩
theorem Rps.two {h : Heap} {vs : List Value} {fp : List Addr} (r : Rps S h vs [p1, p2] fp) : ∃ v1 v2 f1 f2, vs = [v1, v2] ∧ fp = f1 ++ f2 ∧ Rp S h v1 p1 f1 ∧ Rp S h v2 p2 f2 := by
  cases r with
  | cons a b =>
    obtain ⟨v, rfl, r⟩ := Rps.one b
    exact ⟨_, _, _, _, rfl, rfl, a, r⟩

theorem c_lenList {ps : List PV} (hf : (ps.length : Int) < 2 ^ 63) : CallOk S b d (.builtin "len") [.list ps] (.int ps.length) := by
  intro A s vs fp Q R G r h
  obtain ⟨v, rfl, r'⟩ := r.one
  cases r' with
  | list h1 h2 h3 =>
    refine call_len_list h2.isList ?_ ?_
    · rw [List.size_toArray, h3.length]; exact hf
    · rw [List.size_toArray, h3.length]; exact h.int G
theorem c_lenStr {x : Str} (hf : (x.length : Int) < 2 ^ 63) : CallOk S b d (.builtin "len") [.str x] (.int x.length) := by
  intro A s vs fp Q R G r h
  obtain ⟨v, rfl, r'⟩ := r.one
  cases r'
  exact PyProof.Rows.len_str (by (first | lia | omega)) (h.int G)
theorem c_sum {l : List Int} : CallOk S b d (.builtin "sum") [.ints l] (.int l.sum) := by
  intro A s vs fp Q R G r h
  obtain ⟨v, rfl, r'⟩ := r.one
  obtain ⟨a, vs, rfl, rfl, _, hl, hi⟩ := r'.ints
  obtain ⟨xs, e⟩ := hi.allInts.items
  rw [e] at hl
  refine sum_intListG R.hd hl fun h' tk t' hk => ?_
  have e2 : preSum (numAt xs) xs.size = l.sum := by
    rw [preSum_eq, List.take_of_length_le (by simp), ← nums_intItems, ← e]
    rw [show vs.toArray.toList = vs from rfl, hi.numsOf]
  rw [e2]
  exact h.kpInt (Kp.of_keeps G hk)
theorem c_max {x y : Int} : CallOk S b d (.builtin "max") [.int x, .int y] (.int (max x y)) := by
  intro A s vs fp Q R G r h
  obtain ⟨v1, v2, f1, f2, rfl, rfl, r1, r2⟩ := r.two
  (first | obtain ⟨_, rfl, rfl⟩ := r1.inv | cases r1); (first | obtain ⟨_, rfl, rfl⟩ := r2.inv | cases r2)
  refine max_two_ints R.hd fun h' tk hk => ?_
  split
  · rename_i hc
    have e : max x y = y := by (first | lia | omega)
    rw [e] at h
    exact h.kpInt (Kp.of_keeps G hk)
  · rename_i hc
    have e : max x y = x := by (first | lia | omega)
    rw [e] at h
    exact h.kpInt (Kp.of_keeps G hk)
theorem c_min {x y : Int} : CallOk S b d (.builtin "min") [.int x, .int y] (.int (min x y)) := by
  intro A s vs fp Q R G r h
  obtain ⟨v1, v2, f1, f2, rfl, rfl, r1, r2⟩ := r.two
  (first | obtain ⟨_, rfl, rfl⟩ := r1.inv | cases r1); (first | obtain ⟨_, rfl, rfl⟩ := r2.inv | cases r2)
  refine min_two_ints R.hd fun h' tk hk => ?_
  split
  · rename_i hc
    have e : min x y = y := by (first | lia | omega)
    rw [e] at h
    exact h.kpInt (Kp.of_keeps G hk)
  · rename_i hc
    have e : min x y = x := by (first | lia | omega)
    rw [e] at h
    exact h.kpInt (Kp.of_keeps G hk)
theorem c_divmod {x y : Int} (hy : y ≠ 0) (hp : y.natAbs.log2 < 9000) : CallOk S b d (.builtin "divmod") [.int x, .int y] (.tup [.int (x.fdiv y), .int (x.fmod y)]) := by
  intro A s vs fp Q R G r h
  obtain ⟨v1, v2, f1, f2, rfl, rfl, r1, r2⟩ := r.two
  (first | obtain ⟨_, rfl, rfl⟩ := r1.inv | cases r1); (first | obtain ⟨_, rfl, rfl⟩ := r2.inv | cases r2)
  refine divmod_int hy ?_ (.inl (PyProof.noPylong_of_log2 hp))
  obtain ⟨k, r⟩ := newTupPost (b := b) (vs := [.int (x.fdiv y) s.toks, .int (x.fmod y) (s.toks + 1)]) G (.cons (.int _ _) (.cons (.int _ _) .nil))
  exact h _ _ _ (k.toks _) r fun z hz => by
    rcases List.mem_cons.mp hz with rfl | hz
    · exact fresh_size _
    · cases hz
theorem c_hex {x : Int} (hsz : (baseText "0x" 16 x).length ≤ sizeLine) : CallOk S b d (.builtin "hex") [.int x] (.str (baseText "0x" 16 x)) := by
  intro A s vs fp Q R G r h
  obtain ⟨v, rfl, r'⟩ := r.one
  cases r'
  exact PySem.P.hex_of_int (h.str G) hsz
theorem c_join {x : Str} {ys : List Str} (hok : (ys.map (·.length)).sum + ys.length * x.length ≤ 16777216) : CallOk S b d (.builtin "str.join") [.str x, .strs ys] (.str (Txt.join x ys)) := by
  intro A s vs fp Q R G r h
  obtain ⟨v1, v2, f1, f2, rfl, rfl, r1, r2⟩ := r.two
  (first | obtain ⟨_, rfl, rfl⟩ := r1.inv | cases r1)
  obtain ⟨a, vs, rfl, rfl, _, hl, hi⟩ := r2.strs
  exact join_list hl hi hok fun t' k => h.kpStr ((Kp.refl G).toks _)
theorem c_bits {x : Int} : CallOk S b d (.builtin "int.bit_length") [.int x] (.int (Builtin.Int.intBits x : Nat)) := by
  intro A s vs fp Q R G r h
  obtain ⟨v, rfl, r'⟩ := r.one
  cases r'
  exact call_gives F.slot_int_bit_length (typeIs_int _ _ _) F.entry_int_bit_length (F.args_int_bit_length_1 _) (AutoIntG2.int_bit_length_int_0 x _) (h.int G)
end
end Mine
open PySem PySem.Calls PyProof.Rows PySem.W
set_option Elab.async false
namespace Mine
section
variable {S : Sys} {sc : Scope} {ns : List Str} {base : Heap} {env : Env} {s s' : Shared} {ρ : Ro} {rt : Nat → Addr} {b : Bool} {d : Nat} {q : Md} {p p1 p2 : PV} {mg mb : Str → Option Value}

theorem Post.list {vs : List Value} {ps : List PV} {Q : Value → Shared → Prop} (G : Gd S s.heap) (r : Rps S s.heap vs ps []) (h : Post S b s (.list ps) Q) (tk : Nat := s.toks) :
    Q (.ref s.heap.objs.size) { s with heap := s.heap.push { cls := .type "list", data := .seq vs.toArray }, toks := tk } := by
  obtain ⟨k, r2⟩ := newListPost (b := b) G r
  exact h _ _ _ (k.toks tk) r2 fun z hz => by
    rcases List.mem_cons.mp hz with rfl | hz
    · exact fresh_size _
    · cases hz

theorem Rps.allAtoms {h : Heap} : ∀ {vs : List Value} {ps : List PV} {fp : List Addr}, Rps S h vs ps fp → ps.all (·.atom) = true → fp = []
  | _, _, _, .nil, _ => rfl
  | _, _, _, .cons a r, e => by
    rw [List.all_cons, Bool.and_eq_true] at e
    rw [a.atomNil e.1, Rps.allAtoms r e.2]; rfl

theorem o_ladd {ps qs : List PV} (h1 : ps.all (·.atom) = true) (h2 : qs.all (·.atom) = true) (hsz : ps.length + qs.length ≤ sizeLine) : Op2 S b d (binaryOp .Add) (.list ps) (.list qs) (.list (ps ++ qs)) := by
  intro A s v1 v2 f1 f2 Q R G r1 r2 h
  cases r1 with
  | @list l vs _ g1 _ l2 l3 =>
  cases r2 with
  | @list l' ws _ g2 _ m2 m3 =>
  have e1 := l3.allAtoms h1
  have e2 := m3.allAtoms h2
  subst e1; subst e2
  obtain ⟨⟨cls, dd, data, sl⟩, ho, hc, n, hd⟩ := l2.isList
  obtain ⟨⟨cls2, dd2, data2, sl2⟩, ho2, hc2, n2, hd2⟩ := m2.isList
  simp only at hc hd hc2 hd2
  subst hc hd hc2 hd2
  refine concat_meets ⟨_, ho, rfl⟩ ⟨_, ho2, rfl⟩ noFill_list_add seq_list_add PySem.F.slot_list_add PySem.F.entry_list_add (PySem.F.args_list_add_2 _ _) (list_addW l l' vs.toArray ws.toArray n n2 dd dd2 sl sl2 (by simpa [l3.length, m3.length] using hsz)) ⟨ho, ho2, ?_⟩
  have e : vs.toArray ++ ws.toArray = (vs ++ ws).toArray := by simp
  rw [e]
  exact h.list G (l3.append m3)

theorem o_inStrs {x : Str} {ys : List Str} : Op2 S b d (compareOp .In) (.str x) (.strs ys) (.bool (ys.any (· == x))) := by
  intro A s v1 v2 f1 f2 Q R G r1 r2 h
  (first | obtain ⟨_, rfl, rfl⟩ := r1.inv | cases r1)
  obtain ⟨a, vs, rfl, rfl, _, hl, hi⟩ := r2.strs
  exact in_list_strs hl hi (h.kpBool (Kp.refl G))
theorem o_notInStrs {x : Str} {ys : List Str} : Op2 S b d (compareOp .NotIn) (.str x) (.strs ys) (.bool (!ys.any (· == x))) := by
  intro A s v1 v2 f1 f2 Q R G r1 r2 h
  (first | obtain ⟨_, rfl, rfl⟩ := r1.inv | cases r1)
  obtain ⟨a, vs, rfl, rfl, _, hl, hi⟩ := r2.strs
  exact notin_list_strs hl hi (h.kpBool (Kp.refl G))
theorem o_inInts {x : Int} {ys : List Int} : Op2 S b d (compareOp .In) (.int x) (.ints ys) (.bool (ys.any (· == x))) := by
  intro A s v1 v2 f1 f2 Q R G r1 r2 h
  (first | obtain ⟨_, rfl, rfl⟩ := r1.inv | cases r1)
  obtain ⟨a, vs, rfl, rfl, _, hl, hi⟩ := r2.ints
  exact in_list_ints hl hi (h.kpBool (Kp.refl G))

theorem o_leq {xs ys : List Int} : Op2 S b d (compareOp .Eq) (.ints xs) (.ints ys) (.bool (decide (xs = ys))) := by
  intro A s v1 v2 f1 f2 Q R G r1 r2 h
  obtain ⟨a, vs, rfl, rfl, _, hl, hi⟩ := r1.ints
  obtain ⟨a', vs', rfl, rfl, _, hl', hi'⟩ := r2.ints
  exact eq_intsK hl hi hl' hi' (by have := R.units; (first | lia | omega)) (h.kpBool (Kp.refl G))
theorem o_lne {xs ys : List Int} : Op2 S b d (compareOp .NotEq) (.ints xs) (.ints ys) (.bool (!decide (xs = ys))) := by
  intro A s v1 v2 f1 f2 Q R G r1 r2 h
  obtain ⟨a, vs, rfl, rfl, _, hl, hi⟩ := r1.ints
  obtain ⟨a', vs', rfl, rfl, _, hl', hi'⟩ := r2.ints
  exact ne_intsK hl hi hl' hi' (by have := R.units; (first | lia | omega)) (h.kpBool (Kp.refl G))

theorem readsAll_of_strs {h : Heap} : ∀ {vs : List Value} {xs : List Str}, StrsAre vs xs → ReadsAll h vs (xs.map PyData.str) []
  | _, _, .nil => .nil
  | _, _, .cons k t r => by
    have := ReadsAll.cons (PySem.Reads.str (h := h) k t) (readsAll_of_strs (h := h) r)
    simpa using this
theorem reads_of_strs {h : Heap} {a : Addr} {vs : List Value} {xs : List Str} (hl : h.IsList a vs.toArray) (hi : StrsAre vs xs) : PySem.Reads h (.ref a) (.list (xs.map PyData.str)) [a] := by
  obtain ⟨o, ho, hc, n, hd⟩ := hl
  exact PySem.Reads.list ho hc hd (by simpa using readsAll_of_strs hi)
theorem canLayAll0_strs : ∀ xs : List Str, (∀ x ∈ xs, PyData.strOk x = true) → PyData.canLayAll0 (xs.map PyData.str) = true
  | [], _ => by simp [PyData.canLayAll0]
  | x :: r, h => by
    simp only [List.map_cons, PyData.canLayAll0, PyData.canLay0, Bool.and_eq_true]
    exact ⟨h x (.head _), canLayAll0_strs r fun y hy => h y (.tail _ hy)⟩
theorem depthAll_strs : ∀ xs : List Str, PyData.depthAll (xs.map PyData.str) ≤ 1
  | [] => by simp [PyData.depthAll]
  | n :: r => by
    have := depthAll_strs r
    simp only [List.map_cons, PyData.depthAll, PyData.depth]
    (first | lia | omega)
theorem shaped_strs (xs : List Str) (h : ∀ x ∈ xs, PyData.strOk x = true) : SeqAt.shaped (.list (xs.map PyData.str)) = true := by
  have h1 := depthAll_strs xs
  have h2 : PyData.depth (.list (xs.map PyData.str)) ≤ 64 := by simp only [PyData.depth]; (first | lia | omega)
  show (PyData.canLay0 (.list (xs.map PyData.str)) && decide (PyData.depth (.list (xs.map PyData.str)) ≤ 64)) = true
  rw [Bool.and_eq_true]
  exact ⟨by simp only [PyData.canLay0]; exact canLayAll0_strs xs h, decide_eq_true h2⟩
theorem noMix_strs : ∀ xs ys : List Str, SeqAt.noMixAll (xs.map PyData.str) (ys.map PyData.str) = true
  | [], [] => by simp [SeqAt.noMixAll]
  | [], _ :: _ => by simp [SeqAt.noMixAll]
  | _ :: _, [] => by simp [SeqAt.noMixAll]
  | _ :: r, _ :: q => by simp [SeqAt.noMixAll, SeqAt.noMix, noMix_strs r q]

theorem o_strsNil {xs : List Str} (hx : ∀ x ∈ xs, PyData.strOk x = true) : Op2 S b d (compareOp .Eq) (.strs xs) (.list []) (.bool (decide (xs = []))) := by
  intro A s v1 v2 f1 f2 Q R G r1 r2 h
  obtain ⟨a, vs, rfl, rfl, _, hl, hi⟩ := r1.strs
  obtain ⟨a', vs', rfl, rfl, _, hl', hi'⟩ := (show Rp S s.heap v2 (.strs []) f2 from r2).strs
  refine eq_dataH_same (reads_of_strs hl hi) (reads_of_strs hl' hi') (shaped_strs _ hx) (shaped_strs [] fun _ h => by cases h) (by have := R.units; (first | lia | omega)) (by simp only [SeqAt.noMix]; exact noMix_strs _ _) ?_
  have e : PySem.Spec.same (.list (xs.map PyData.str)) (.list (([] : List Str).map PyData.str)) = decide (xs = []) := by
    cases xs <;> simp [PySem.Spec.same, PySem.Spec.sameAll]
  rw [e]
  exact h.kpBool (Kp.refl G)

theorem o_tne2 {a c x y : Int} : Op2 S b d (compareOp .NotEq) (.tup [.int a, .int c]) (.tup [.int x, .int y]) (.bool (!decide (a = x ∧ c = y))) := by
  intro A s v1 v2 f1 f2 Q R G r1 r2 h
  cases r1 with
  | @tup l vs _ g1 _ l2 l3 =>
  cases r2 with
  | @tup l' ws _ g2 _ m2 m3 =>
  have i1 := (show Rps S s.heap vs ([a, c].map PV.int) g1 from l3).ints.1
  have i2 := (show Rps S s.heap ws ([x, y].map PV.int) g2 from m3).ints.1
  obtain ⟨o, ho, hc, n, hd⟩ := l2
  obtain ⟨o', ho', hc', n', hd'⟩ := m2
  have sh : ∀ a c : Int, SeqAt.shaped (.tuple ([a, c].map PyData.int)) = true := fun a c => by
    show (PyData.canLay0 (.tuple ([a, c].map PyData.int)) && decide (PyData.depth (.tuple ([a, c].map PyData.int)) ≤ 64)) = true
    simp [PyData.canLay0, PyData.canLayAll0, PyData.depth, PyData.depthAll]
  refine ne_dataH_same (PySem.Reads.tuple ho hc hd (by simpa using readsAll_of_ints i1)) (PySem.Reads.tuple ho' hc' hd' (by simpa using readsAll_of_ints i2)) (sh a c) (sh x y) (by have := R.units; (first | lia | omega)) (by simp [SeqAt.noMix, SeqAt.noMixAll]) ?_
  have e : PySem.Spec.same (.tuple ([a, c].map PyData.int)) (.tuple ([x, y].map PyData.int)) = decide (a = x ∧ c = y) := by
    by_cases h1 : a = x <;> by_cases h2 : c = y <;> simp [PySem.Spec.same, PySem.Spec.sameAll, h1, h2]
  rw [e]
  exact h.kpBool (Kp.refl G)
end
end Mine
open PySem PySem.Calls PyProof.Rows PySem.W
set_option Elab.async false
set_option autoImplicit false
namespace Mine
section
variable {S : Sys} {sc : Scope} {ns : List Str} {base : Heap} {env : Env} {s s' : Shared} {ρ : Ro} {rt : Nat → Addr} {b : Bool} {d : Nat} {q : Md} {p p1 p2 : PV} {mg mb : Str → Option Value}

theorem MdOk.sub {f1 f2 : List Addr} (h : MdOk q s env ρ rt f1) (k : ∀ x ∈ f2, x ∈ f1) : MdOk q s env ρ rt f2 := by
  cases q with
  | R => trivial
  | N => exact fun x hx => h x (k x hx)
  | C => exact fun x hx => h x (k x hx)
  | F => exact fun x hx => h x (k x hx)

theorem Rp.kp {v : Value} {fp : List Addr} (r : Rp S s.heap v p fp) (k : Kp S b s s') : Rp S s'.heap v p fp := r.mono fun x hx o e => k.keep x o (r.lives x hx).1 e

theorem Ev.idx {o i : Expr} {pos : Pos} {ps : List PV} {k : Int} {q1 : Md} (h0 : Ev S sc ns b d q ρ o (.list ps)) (hi : Ev S sc ns b d q1 ρ i (.int k))
    (hk : 0 ≤ k) (hfit : k < 2 ^ 63) (hx : ps[k.toNat]? = some p) (hs : ∀ o' i', subscripted i false o' i' = operate [o', i'] (getItem o' i') := by intro _ _; rfl) :
    Ev S sc ns b d q ρ (.Subscript o i pos) p := by
  intro A base env s rt Q R F hQ
  refine Subscript_ (h0 A base env s rt _ R F fun v0 s1 f0 k1 r0 m0 => ?_)
  refine hi A base env s1 rt _ R (F.kp k1) fun v1 s2 f1 k2 r1 _ => ?_
  have r0' := r0.kp k2
  (first | obtain ⟨_, rfl, rfl⟩ := r1.inv | cases r1)
  cases r0' with
  | list g1 g2 g3 =>
    obtain ⟨v, f, e, r, hf⟩ := g3.get hx
    refine tail_any g2.isList.typeIs slot_list_getitem.lookup (wpAny_getItem_list g2.isList hk hfit (by simpa using e) ?_) (hs _ _)
    exact hQ v s2 f (k1.trans k2) r (m0.sub fun x hx => .tail _ (hf x hx))
theorem Ev.idxA {o i : Expr} {pos : Pos} {ps : List PV} {k : Int} {q0 q1 : Md} (h0 : Ev S sc ns b d q0 ρ o (.list ps)) (hi : Ev S sc ns b d q1 ρ i (.int k))
    (hk : 0 ≤ k) (hfit : k < 2 ^ 63) (hx : ps[k.toNat]? = some p) (ha : p.atom = true) (hs : ∀ o' i', subscripted i false o' i' = operate [o', i'] (getItem o' i') := by intro _ _; rfl) :
    Ev S sc ns b d q ρ (.Subscript o i pos) p := by
  intro A base env s rt Q R F hQ
  refine Subscript_ (h0 A base env s rt _ R F fun v0 s1 f0 k1 r0 m0 => ?_)
  refine hi A base env s1 rt _ R (F.kp k1) fun v1 s2 f1 k2 r1 _ => ?_
  have r0' := r0.kp k2
  (first | obtain ⟨_, rfl, rfl⟩ := r1.inv | cases r1)
  cases r0' with
  | list g1 g2 g3 =>
    obtain ⟨v, f, e, r, hf⟩ := g3.get hx
    refine tail_any g2.isList.typeIs slot_list_getitem.lookup (wpAny_getItem_list g2.isList hk hfit (by simpa using e) ?_) (hs _ _)
    have := r.atomNil ha
    subst this
    exact hQ v s2 [] (k1.trans k2) r MdOk.nil

/-! dicts -/
noncomputable def dget (ks : List Str) (ps : List PV) (k : Str) : Option PV := match ks, ps with
  | x :: ks, p :: ps => if x = k then some p else dget ks ps k
  | _, _ => none
theorem dget_val {h : Heap} {k : Str} : ∀ {ks : List Str} {vs : List Value} {ps : List PV} {fp : List Addr}, Rps S h vs ps fp → ks.length = vs.length →
    (dget ks ps k = none ∧ valueAt (ks.zip vs) k = none) ∨ ∃ p v f, dget ks ps k = some p ∧ valueAt (ks.zip vs) k = some v ∧ Rp S h v p f ∧ ∀ x ∈ f, x ∈ fp
  | [], _, _, _, .nil, _ => .inl ⟨rfl, rfl⟩
  | x :: ks, _, _, _, .cons (v := v) (p := p) (vs := vs) (ps := ps) (f1 := f1) a r, e => by
    by_cases hx : x = k
    · subst hx
      exact .inr ⟨p, v, f1, by simp [dget], by simp [valueAt], a, fun y hy => List.mem_append_left _ hy⟩
    · have e1 : dget (x :: ks) (p :: ps) k = dget ks ps k := by simp [dget, hx]
      have e2 : valueAt ((x :: ks).zip (v :: vs)) k = valueAt (ks.zip vs) k := by simp [valueAt, hx]
      rw [e1, e2]
      rcases dget_val (k := k) r (by simpa using e) with h | ⟨p, v, f, h1, h2, h3, h4⟩
      · exact .inl h
      · exact .inr ⟨p, v, f, h1, h2, h3, fun y hy => List.mem_append_right _ (h4 y hy)⟩

theorem Ev.ditem {o i : Expr} {pos : Pos} {ks : List Str} {ps : List PV} {k : Str} {q1 : Md} (h0 : Ev S sc ns b d q ρ o (.dict ks ps)) (hi : Ev S sc ns b d q1 ρ i (.str k))
    (hx : dget ks ps k = some p) (hs : ∀ o' i', subscripted i false o' i' = operate [o', i'] (getItem o' i') := by intro _ _; rfl) :
    Ev S sc ns b d q ρ (.Subscript o i pos) p := by
  intro A base env s rt Q R F hQ
  refine Subscript_ (h0 A base env s rt _ R F fun v0 s1 f0 k1 r0 m0 => ?_)
  refine hi A base env s1 rt _ R (F.kp k1) fun v1 s2 f1 k2 r1 _ => ?_
  have r0' := r0.kp k2
  (first | obtain ⟨_, rfl, rfl⟩ := r1.inv | cases r1)
  cases r0' with
  | dict g1 g2 g3 g4 g5 =>
    rcases dget_val (k := k) g5 g3 with ⟨e, _⟩ | ⟨p', v, f, e1, e2, r, hf⟩
    · rw [e] at hx; cases hx
    · rw [e1] at hx; cases hx
      refine tail_any g4.typeIs slot_dict_getitem.lookup (wpAny_getItem_of (strKind_is _ _ k _) g4.mapOf e2 ?_) (hs _ _)
      exact hQ v { s2 with toks := s2.toks + 1 } f ((k1.trans k2).toks _) r (m0.sub fun x hx => .tail _ (hf x hx))

theorem o_inDict {k : Str} {ks : List Str} {ps : List PV} : Op2 S b d (compareOp .In) (.str k) (.dict ks ps) (.bool (dget ks ps k).isSome) := by
  intro A s v1 v2 f1 f2 Q R G r1 r2 h
  (first | obtain ⟨_, rfl, rfl⟩ := r1.inv | cases r1)
  cases r2 with
  | dict g1 g2 g3 g4 g5 =>
    refine wpAny_in_of (strKind_is _ _ k _) g2 g4.mapOf ?_
    rcases dget_val (k := k) g5 g3 with ⟨e, e'⟩ | ⟨p', v, f, e1, e2, r, hf⟩
    · rw [e'] ; rw [e] at h; exact h.bool G
    · rw [e2] ; rw [e1] at h; exact h.bool G
theorem o_notInDict {k : Str} {ks : List Str} {ps : List PV} : Op2 S b d (compareOp .NotIn) (.str k) (.dict ks ps) (.bool (!(dget ks ps k).isSome)) := by
  intro A s v1 v2 f1 f2 Q R G r1 r2 h
  (first | obtain ⟨_, rfl, rfl⟩ := r1.inv | cases r1)
  cases r2 with
  | dict g1 g2 g3 g4 g5 =>
    refine wpAny_notIn_of (strKind_is _ _ k _) g2 g4.mapOf ?_
    rcases dget_val (k := k) g5 g3 with ⟨e, e'⟩ | ⟨p', v, f, e1, e2, r, hf⟩
    · rw [e'] ; rw [e] at h; exact h.bool G
    · rw [e2] ; rw [e1] at h; exact h.bool G

theorem Rps.zipLen {h : Heap} {ks : List Str} {vs : List Value} {ps : List PV} {fp : List Addr} (e : ks.length = vs.length) (_r : Rps S h vs ps fp) : (ks.zip vs).length = ks.length := by
  rw [List.length_zip, ← e, Nat.min_self]

theorem Ev.dget2 {o e1 e2 : Expr} {apos pos : Pos} {ks : List Str} {ps : List PV} {k : Str} {pd : PV} {q0 q1 : Md} (h0 : Ev S sc ns b d q0 ρ o (.dict ks ps))
    (ha : Evs S sc ns b d q1 ρ [e1, e2] [.str k, pd])
    (hbase : ∀ env t, attributeBase o "get" env t = t := by intro _ _; rfl)
    (hfew : ∀ env, ((backTo pos (starEach [e1, e2] env)).all (fun x => !x.1) && (backToKw pos (keywordEach [] env)).all (fun x => x.1.isSome)
      && decide ([e1, e2].length + ([] : List Keyword).length + (if ([] : List Keyword).isEmpty then 0 else 1) < 30)) = true := by intro _; rfl)
    (hline : (apos.endLine == pos.line) = true := by rfl)
    (he : ∀ env, starEach [e1, e2] env = (false, eval e1 env) :: starEach [e2] env := by intro _; rfl)
    (hp : ∀ env, (backTo pos (starEach [e1, e2] env)).any (·.1) = false := by intro _; rfl) :
    Ev S sc ns b d .R ρ (.Call (.Attribute o "get" apos) [e1, e2] [] pos) ((dget ks ps k).getD pd) := by
  intro A base env s rt Q R F hQ
  refine wpAny_Call_method (T := "dict") (id := "dict.get") (hbase env _) (hfew env) hline PySem.F.plainAttrs_dict PySem.F.slot_dict_get PySem.F.type_dict_get (h0 A base env s rt _ R F fun v0 s1 f0 k1 r0 _ => ?_)
  have hb : backTo pos (starEach [e1, e2] env) = (false, eval e1 env) :: backTo pos (starEach [e2] env) := by rw [he env]; rfl
  have r0c := r0
  cases r0c with
  | @dict da _ _ _ _ g1 g2 g3 g4 g5 =>
  refine ⟨g4.typeIs, fun a e => by cases e; exact g4.mapOf.noDict _ rfl, callWith_builtin (hp env) ?_⟩
  have := ha A base env s1 rt pos (fun vs s' => wpAny (model S.prog S.w) A (PySem.call (.builtin "dict.get") ([.ref da] ++ vs) []) Q No s') R (F.kp k1) fun vs s2 fp k2 r2 _ => ?_
  · rw [hb] at this ⊢
    exact evalArgs_plain this
  · obtain ⟨v1, v2, f1, f2, rfl, rfl, t1, t2⟩ := r2.two
    cases t1
    have r0' := r0.kp k2
    cases r0' with
    | dict g1 g2 g3 g4 g5 =>
    refine call_meetsIn PySem.F.slot_dict_get g4.typeIs PySem.F.entry_dict_get (PySem.F.args_dict_get_3 _ _ _) (meets_dict_get_default (strKind S.prog S.w) _ (strKind_is _ _ k _) g2 v2) ⟨_, g4.mapOf, ?_⟩
    rcases dget_val (k := k) g5 g3 with ⟨e, e'⟩ | ⟨p', v, f, e1, e2, r, hf⟩
    · rw [e']
      exact hQ v2 { s2 with toks := s2.toks + 1 } f2 ((k1.trans k2).toks _) (by rw [e]; exact t2) trivial
    · rw [e2]
      exact hQ v { s2 with toks := s2.toks + 1 } f ((k1.trans k2).toks _) (by rw [e1]; exact r) trivial

theorem c_lenDict {ks : List Str} {ps : List PV} (hf : (ks.length : Int) < 2 ^ 63) : CallOk S b d (.builtin "len") [.dict ks ps] (.int ks.length) := by
  intro A s vs fp Q R G r h
  obtain ⟨v, rfl, r'⟩ := r.one
  cases r' with
  | dict g1 g2 g3 g4 g5 =>
    have e := Rps.zipLen g3 g5
    refine call_len_dict g2 g4 ?_ ?_
    · rw [e]; exact hf
    · rw [e]; exact h.int G

/-! tests -/
theorem Tr.int {e : Expr} {i : Int} {q1 : Md} (h : Ev S sc ns b d q1 ρ e (.int i)) (he : ∀ env t, isTrue e env t = (do let v ← t; standAt e.pos; holding [v] (truthy v)) := by intro _ _; rfl) : Tr S sc ns b d ρ e (i != 0) := by
  intro A base env s rt Q R F hQ
  refine wpAny_isTrue_value (h A base env s rt _ R F fun v s1 f k r _ => ?_) (he env _)
  (first | obtain ⟨_, rfl, rfl⟩ := r.inv | cases r)
  exact PyProof.Rows.truthy_int (hQ s1 k)
theorem Tr.not {e : Expr} {pos : Pos} {t : Bool} (h : Tr S sc ns b d ρ e t) : Tr S sc ns b d ρ (.UnaryOp .Not e pos) (!t) := by
  intro A base env s rt Q R F hQ
  exact wpAny_isTrue_Not (h A base env s rt _ R F fun s1 k => hQ s1 k)
theorem Tr.and2 {e1 e2 : Expr} {pos : Pos} {t1 t2 : Bool} (h1 : Tr S sc ns b d ρ e1 t1) (h2 : t1 = true → Tr S sc ns b d ρ e2 t2) : Tr S sc ns b d ρ (.BoolOp .And [e1, e2] pos) (t1 && t2) := by
  intro A base env s rt Q R F hQ
  refine wpAny_isTrue_BoolOp (wpAny_allTrue_And_cons (h1 A base env s rt _ R F fun s1 k1 => ?_))
  cases t1 with
  | false => exact hQ s1 k1
  | true =>
    refine wpAny_allTrue_And_cons (h2 rfl A base env s1 rt _ R (F.kp k1) fun s2 k2 => ?_)
    cases t2 with
    | false => exact hQ s2 (k1.trans k2)
    | true => exact wpAny_allTrue_And_nil (hQ s2 (k1.trans k2))
theorem Tr.or2 {e1 e2 : Expr} {pos : Pos} {t1 t2 : Bool} (h1 : Tr S sc ns b d ρ e1 t1) (h2 : t1 = false → Tr S sc ns b d ρ e2 t2) : Tr S sc ns b d ρ (.BoolOp .Or [e1, e2] pos) (t1 || t2) := by
  intro A base env s rt Q R F hQ
  refine wpAny_isTrue_BoolOp (wpAny_allTrue_Or_cons (h1 A base env s rt _ R F fun s1 k1 => ?_))
  cases t1 with
  | true => exact hQ s1 k1
  | false =>
    refine wpAny_allTrue_Or_cons (h2 rfl A base env s1 rt _ R (F.kp k1) fun s2 k2 => ?_)
    cases t2 with
    | true => exact hQ s2 (k1.trans k2)
    | false => exact wpAny_allTrue_Or_nil (hQ s2 (k1.trans k2))
theorem Ev.ite {t e1 e2 : Expr} {pos : Pos} {c : Bool} (h : Tr S sc ns b d ρ t c) (h1 : c = true → Ev S sc ns b d q ρ e1 p) (h2 : c = false → Ev S sc ns b d q ρ e2 p) : Ev S sc ns b d q ρ (.IfExp t e1 e2 pos) p := by
  intro A base env s rt Q R F hQ
  refine wpAny_IfExp (h A base env s rt _ R F fun s1 k1 => ?_)
  cases c with
  | true => exact h1 rfl A base env s1 rt _ R (F.kp k1) fun v s2 fp k2 r m => hQ v s2 fp (k1.trans k2) r (m.back k1)
  | false => exact h2 rfl A base env s1 rt _ R (F.kp k1) fun v s2 fp k2 r m => hQ v s2 fp (k1.trans k2) r (m.back k1)
end
end Mine
open PySem PySem.Calls PyProof.Rows PySem.W
set_option Elab.async false
set_option autoImplicit false
namespace Mine
section
variable {S : Sys} {sc : Scope} {ns : List Str} {base : Heap} {env : Env} {s s' s0 : Shared} {ρ : Ro} {rt : Nat → Addr} {b : Bool} {d : Nat} {q : Md} {p p1 p2 : PV} {mg mb : Str → Option Value}

theorem ns_unique {h : Heap} {a : Addr} {m m' : Str → Option Value} (n : h.Ns a m) (n' : h.Ns a m') (x : Str) : m x = m' x := by
  obtain ⟨o, es, ep, e, e2, _, e3⟩ := n
  obtain ⟨o', es', ep', e', e2', _, e3'⟩ := n'
  rw [e] at e'; cases e'; rw [e2] at e2'; cases e2'
  rw [← e3 x, ← e3' x]

theorem isCellOf.ne {h : Heap} (F : Fm S sc ns base env h ρ rt) {c : Addr} (hc : isCellOf env c) : c ≠ env.locals := by
  rintro rfl
  obtain ⟨_, v, o, e, e2⟩ := F.cellB _ hc
  obtain ⟨m, o', es, ep, e', e3, _⟩ := F.ns1
  rw [e] at e'; cases e'; rw [e2] at e3; cases e3

theorem nodup_ne {i j : Nat} {x y : Str} (nd : ns.Nodup) (hi : ns[i]? = some x) (hj : ns[j]? = some y) (hne : j ≠ i) : y ≠ x := by
  rintro rfl
  obtain ⟨h1, e1⟩ := List.getElem?_eq_some_iff.mp hi
  obtain ⟨h2, e2⟩ := List.getElem?_eq_some_iff.mp hj
  exact hne ((List.getElem_inj nd).mp (e2.trans e1.symm))

structure Storable (S : Sys) (base : Heap) (env : Env) (s0 s : Shared) (ρ : Ro) (rt rt' : Nat → Addr) (i : Nat) (p : PV) (k : Own) (v : Value) (fp : List Addr) : Prop where
  rp : Rp S s.heap v p fp
  hrt : ∀ j, j ≠ i → rt' j = rt j
  loc : ∀ x ∈ fp, x ≠ env.locals ∧ ¬ isCellOf env x
  sep : ∀ j q k', ρ[j]? = some (some (q, k')) → k' ≠ .imm → j ≠ i → rt j ∉ fp
  own : k ≠ .imm → v = .ref (rt' i) ∧ (∀ x ∈ fp, s0.heap.get? x = none) ∧ (∃ ob, s.heap.get? (rt' i) = some ob ∧ ob.dict = none ∧ ∀ vs, ob.data ≠ .fields vs) ∧ ∃ fp', fp = rt' i :: fp' ∧ rt' i ∉ fp'

theorem getElem?_set_ne' {α : Type} {l : List α} {i j : Nat} {a : α} (h : j ≠ i) : (l.set i a)[j]? = l[j]? := List.getElem?_set_ne (Ne.symm h)

theorem Gd.sameBut {h h' : Heap} {a : Addr} (G : Gd S h) (hs : Heap.SameBut a h h') (ht : S.hT.get? a = none) (hd : ∀ o, h.get? a = some o → ∀ vs, o.data ≠ .fields vs) (ha : ∃ o, h.get? a = some o) : Gd S h' := by
  have ne : ∀ {x o vs}, h.get? x = some o → o.data = .fields vs → x ≠ a := fun e1 e2 e3 => hd _ (e3 ▸ e1) _ e2
  refine ⟨fun x o hx e => ?_, fun t ht' => ?_⟩
  · by_cases hxa : x = a
    · subst hxa; rw [ht] at e; cases e
    · exact (hs.2 x hxa).trans (G.top x o hx e)
  · obtain ⟨ps, e, r⟩ := G.tab t ht'
    refine ⟨ps, (hs.2 _ (ne e rfl)).trans e, r.imp id fun ⟨c', e1, c, o, vs, t', e2, e3, e4, e5⟩ => ⟨c', e1, c, o, vs, t', e2, (hs.2 _ (ne e3 e4)).trans e3, e4, e5⟩⟩

theorem Fm.topNone {h : Heap} (F : Fm S sc ns base env h ρ rt) {a : Addr} (e : base.get? a = none) : S.hT.get? a = none := by
  cases q : S.hT.get? a with
  | none => rfl
  | some o => obtain ⟨o', e'⟩ := F.top a o q; rw [e] at e'; cases e'

theorem Fm.turn {h h' : Heap} {a : Addr} (F : Fm S sc ns base env h ρ rt) (ha : a = env.locals ∨ isCellOf env a) (hs : Heap.SameBut a h h') (hsh : ∃ o', h'.get? a = some o') :
    Gd S h' ∧ (∀ x o, base.get? x = some o → ∃ o', h'.get? x = some o') := by
  have hb : base.get? a = none := ha.elim (fun e => e ▸ F.nsB) fun e => (F.cellB a e).1
  refine ⟨F.gd.sameBut hs (F.topNone hb) (fun o e vs hd => ?_) ?_, fun x o e => ?_⟩
  · rcases ha with rfl | hc
    · obtain ⟨m, o', es, ep, e', e3, _⟩ := F.ns1
      rw [e] at e'; cases e'; rw [hd] at e3; cases e3
    · obtain ⟨_, v, o', e', e3⟩ := F.cellB a hc
      rw [e] at e'; cases e'; rw [hd] at e3; cases e3
  · rcases ha with rfl | hc
    · obtain ⟨m, o', es, ep, e', _⟩ := F.ns1; exact ⟨o', e'⟩
    · obtain ⟨_, v, o', e', _⟩ := F.cellB a hc; exact ⟨o', e'⟩
  · obtain ⟨o', e'⟩ := F.alive x o e
    have hx : x ≠ a := fun e' => by rw [e', hb] at e; cases e
    exact ⟨o', (hs.2 x hx).trans e'⟩

theorem Fm.stored {k : Own} {i : Nat} {x : Str} {v : Value} {fp : List Addr} {rt' : Nat → Addr} {h' : Heap} {a : Addr} (F0 : Fm S sc ns base env s0.heap ρ rt) (k0 : Kp S b s0 s) (nd : ns.Nodup) (hn : ns[i]? = some x)
    (st : Storable S base env s0 s ρ rt rt' i p k v fp)
    (ha : a = env.locals ∨ isCellOf env a) (hs : Heap.SameBut a s.heap h')
    (hx : Reads env h' x v) (hns : ∃ m, h'.Ns env.locals m) (hcl : ∀ c, isCellOf env c → ∃ v, h'.IsCell c v)
    (hoth : ∀ y w, y ≠ x → Reads env s.heap y w → Reads env h' y w) (tk : Nat) :
    NextIs S sc ns b base env ρ rt s0 { s with heap := h', toks := tk } (ρ.set i (some (p, k))) := by
  have F := F0.kp k0
  have hal : ∃ o', h'.get? a = some o' := by
    rcases ha with rfl | hc
    · obtain ⟨m, o', es, ep, e', _⟩ := hns; exact ⟨o', e'⟩
    · obtain ⟨v, o', e', _⟩ := hcl a hc; exact ⟨o', e'⟩
  obtain ⟨g, al⟩ := F.turn ha hs hal
  have hown : ownOf env ρ rt a := ha.elim .inl fun e => .inr (.inl e)
  have fpa : ∀ y ∈ fp, y ≠ a := fun y hy e => by
    subst e
    rcases ha with e | hc
    · exact (st.loc _ hy).1 e
    · exact (st.loc _ hy).2 hc
  have rootA : ∀ j q k', ρ[j]? = some (some (q, k')) → k' ≠ .imm → rt j ≠ a := fun j q k' e hk e2 => by
    obtain ⟨y, ey⟩ := F.name e
    obtain ⟨v, fp, V⟩ := F.vars j y q k' ey e
    obtain ⟨_, _, _, fp', e3, _⟩ := V.own hk
    have := V.loc (rt j) (by rw [e3]; exact .head _)
    rcases ha with e | hc
    · exact this.1 (e2.trans e)
    · exact this.2 (e2 ▸ hc)
  obtain ⟨hh, tk0, es, ek, _⟩ := id k0
  refine ⟨⟨⟨h', tk, by rw [es]⟩, fun y o hy hb e => ?_, fun y o e => ?_⟩, rt', fun j q k' e hk => ?_, ?_⟩
  · have hya : y ≠ a := fun e => hy (e ▸ hown)
    refine (hs.2 y hya).trans ?_
    rw [es]
    exact ek y o id hb e
  · by_cases hya : y = a
    · subst hya; exact hal
    · obtain ⟨o', e'⟩ := TabOk.alive k0.gd k0.keep y o e
      exact ⟨o', (hs.2 y hya).trans e'⟩
  · by_cases hji : j = i
    · subst hji
      rw [List.getElem?_set_self' ] at e
      cases hρ : ρ[j]? with
      | none => rw [hρ] at e; cases e
      | some z =>
        rw [hρ] at e
        cases e
        obtain ⟨_, o2, _, fp', e3, _⟩ := st.own hk
        exact .inr (o2 _ (by rw [e3]; exact .head _))
    · rw [getElem?_set_ne' hji] at e
      exact .inl ⟨st.hrt j hji, q, e⟩
  · refine ⟨g, F.kind, F.kinds, F.glob, F.blt, F.top, al, F.nsB, hns, fun c hc => ⟨(F.cellB c hc).1, hcl c hc⟩, F.cellInj, F.cellsAll, by rw [List.length_set]; exact F.len, fun j y pj kj ey e => ?_⟩
    by_cases hji : j = i
    · subst hji
      rw [hn] at ey; cases ey
      rw [List.getElem?_set_self'] at e
      cases hρ : ρ[j]? with
      | none => rw [hρ] at e; cases e
      | some z =>
      rw [hρ] at e
      cases e
      refine ⟨v, fp, hx, st.rp.mono fun z hz o e => (hs.2 z (fpa z hz)).trans e, st.loc, fun hk => ?_, fun j' q' k' e' hk' hne => ?_⟩
      · obtain ⟨o1, o2, ⟨ob, o3, o4⟩, fp', o5, o6⟩ := st.own hk
        refine ⟨o1, fun z hz => ?_, ⟨ob, (hs.2 _ (fpa _ (by rw [o5]; exact .head _))).trans o3, o4⟩, fp', o5, o6⟩
        cases hb : base.get? z with
        | none => rfl
        | some o => obtain ⟨o', e'⟩ := F0.alive z o hb; rw [o2 z hz] at e'; cases e'
      · rw [getElem?_set_ne' hne] at e'
        rw [st.hrt j' hne]
        exact st.sep j' q' k' e' hk' hne
    · rw [getElem?_set_ne' hji] at e
      obtain ⟨w, fpj, V0⟩ := F0.vars j y pj kj ey e
      have rpj := V0.rp.kp k0
      have fpja : ∀ z ∈ fpj, z ≠ a := fun z hz e => by
        subst e
        rcases ha with e | hc
        · exact (V0.loc _ hz).1 e
        · exact (V0.loc _ hz).2 hc
      refine ⟨w, fpj, hoth y w (nodup_ne nd hn ey hji) (V0.rd.grow F0.gd k0.keep), rpj.mono fun z hz o e => (hs.2 z (fpja z hz)).trans e, V0.loc, fun hk => ?_, fun j' q' k' e' hk' hne => ?_⟩
      · obtain ⟨o1, o2, ⟨ob, o3, o4⟩, fp', o5, o6⟩ := V0.own hk
        rw [st.hrt j hji]
        have hl := V0.rp.lives (rt j) (by rw [o5]; exact .head _)
        exact ⟨o1, o2, ⟨ob, (hs.2 _ (rootA j pj kj e hk)).trans (k0.keep _ _ hl.1 o3), o4⟩, fp', o5, o6⟩
      · by_cases hj' : j' = i
        · subst hj'
          rw [List.getElem?_set_self'] at e'
          cases hρ : ρ[j']? with
          | none => rw [hρ] at e'; cases e'
          | some z =>
          rw [hρ] at e'
          cases e'
          obtain ⟨_, o2, _, fp', e3, _⟩ := st.own hk'
          intro hm
          obtain ⟨_, o, e4⟩ := V0.rp.lives _ hm
          rw [o2 _ (by rw [e3]; exact .head _)] at e4; cases e4
        · rw [getElem?_set_ne' hj'] at e'
          rw [st.hrt j' hj']
          exact V0.sep j' q' k' e' hk' hne

theorem store_ok {A : Around} {k : Own} {i : Nat} {x : Str} {v : Value} {fp : List Addr} {rt' : Nat → Addr} {Q : Unit → Shared → Prop} (F0 : Fm S sc ns base env s0.heap ρ rt) (k0 : Kp S b s0 s) (nd : ns.Nodup) (hn : ns[i]? = some x)
    (hk : sc.names.lookup x = some .local ∨ sc.names.lookup x = some .cell)
    (st : Storable S base env s0 s ρ rt rt' i p k v fp)
    (h : ∀ s', NextIs S sc ns b base env ρ rt s0 s' (ρ.set i (some (p, k))) → Q () s') : wpAny (model S.prog S.w) A (storeName env x v) Q No s := by
  have F := F0.kp k0
  have kd : ∀ {kk}, kk ≠ NameKind.free → sc.names.lookup x = some kk → env.kindOf x = some kk := fun hne e => by
    rcases F.kinds x with h | ⟨h, _⟩
    · rw [h, e]
    · rw [e] at h; exact absurd (Option.some.inj h) hne
  rcases hk with hk | hk
  · have kx := kd (by intro h; cases h) hk
    obtain ⟨m, n⟩ := F.ns1
    refine wpAny_storeName_local kx n (fun h' n' hs => h _ ?_) (by rw [F.kind]; rfl)
    refine F0.stored k0 nd hn st (.inl rfl) hs (.inl ⟨kx, _, n', by simp⟩) ⟨_, n'⟩ (fun c hc => ?_) (fun y w hy r => ?_) _
    · obtain ⟨_, v, o, e, e2⟩ := F.cellB c hc
      exact ⟨v, o, (hs.2 c (isCellOf.ne F hc)).trans e, e2⟩
    · rcases r with ⟨r1, m', r2, r3⟩ | ⟨r1, c, r2, o, r3, r4⟩
      · refine .inl ⟨r1, _, n', ?_⟩
        have : m' y = m y := ns_unique r2 n y
        simp [hy, ← this, r3]
      · exact .inr ⟨r1, c, r2, o, (hs.2 c (isCellOf.ne F ⟨y, r2⟩)).trans r3, r4⟩
  · have kx := kd (by intro h; cases h) hk
    have hc := F.cellsAll x hk
    cases hcx : env.cells.lookup x with
    | none => rw [hcx] at hc; cases hc
    | some c =>
    have hco : isCellOf env c := ⟨x, hcx⟩
    obtain ⟨_, v0, n0⟩ := F.cellB c hco
    refine wpAny_storeName_cell F.kind kx hcx n0 fun h' n' hs => ?_
    have := F0.stored k0 nd hn st (.inr hco) hs (.inr ⟨.inl kx, c, hcx, n'⟩) ?_ (fun c' hc' => ?_) (fun y w hy r => ?_) s.toks
    · exact h _ this
    · obtain ⟨m, n⟩ := F.ns1
      exact ⟨m, n.sameBut hs (Ne.symm (isCellOf.ne F hco))⟩
    · by_cases hcc : c' = c
      · exact ⟨_, hcc ▸ n'⟩
      · obtain ⟨_, v, o, e, e2⟩ := F.cellB c' hc'
        exact ⟨v, o, (hs.2 c' hcc).trans e, e2⟩
    · rcases r with ⟨r1, m', r2, r3⟩ | ⟨r1, c', r2, o, r3, r4⟩
      · exact .inl ⟨r1, m', r2.sameBut hs (Ne.symm (isCellOf.ne F hco)), r3⟩
      · have : c' ≠ c := fun e => hy (F.cellInj y x c (e ▸ r2) hcx)
        exact .inr ⟨r1, c', r2, o, (hs.2 c' this).trans r3, r4⟩
end
end Mine
open PySem PySem.Calls PyProof.Rows PySem.W
set_option Elab.async false
set_option autoImplicit false
set_option linter.unusedVariables false
namespace Mine
section
variable {S : Sys} {sc : Scope} {ns : List Str} {base : Heap} {env : Env} {s s' s0 : Shared} {ρ : Ro} {rt : Nat → Addr} {b : Bool} {d : Nat} {q : Md} {p p1 p2 : PV} {mg mb : Str → Option Value}

theorem ownOf.back {h : Heap} {ρ1 : Ro} {rt1 : Nat → Addr} (ro : RootOk ρ rt h ρ1 rt1) {y : Addr} {o : Obj} (e : h.get? y = some o) (hy : ownOf env ρ1 rt1 y) : ownOf env ρ rt y := by
  rcases hy with hy | hy | ⟨i, p, e1, e2⟩
  · exact .inl hy
  · exact .inr (.inl hy)
  · rcases ro i p .mut e1 (by intro h; cases h) with ⟨h1, p', h2⟩ | h1
    · exact .inr (.inr ⟨i, p', h2, h1.symm.trans e2⟩)
    · rw [e2, e] at h1; cases h1

theorem Stp.trans {ρ1 : Ro} {rt1 : Nat → Addr} {s1 s2 : Shared} (x : Stp S b env ρ rt s s1) (ro : RootOk ρ rt s.heap ρ1 rt1) (y : Stp S b env ρ1 rt1 s1 s2) : Stp S b env ρ rt s s2 where
  same := by
    obtain ⟨h, tk, rfl⟩ := x.same
    obtain ⟨h', tk', rfl⟩ := y.same
    exact ⟨h', tk', rfl⟩
  keep := fun z o hz hb e => y.keep z o (fun h => hz (ownOf.back ro e h)) hb (x.keep z o hz hb e)
  alive := fun z o e => let ⟨o', e'⟩ := x.alive z o e; y.alive z o' e'

theorem RootOk.trans {ρ1 ρ2 : Ro} {rt1 rt2 : Nat → Addr} {s1 : Shared} (x : Stp S b env ρ rt s s1) (ro : RootOk ρ rt s.heap ρ1 rt1) (r2 : RootOk ρ1 rt1 s1.heap ρ2 rt2) : RootOk ρ rt s.heap ρ2 rt2 := fun i p k e hk => by
  rcases r2 i p k e hk with ⟨h1, p', h2⟩ | h1
  · rcases ro i p' k h2 hk with ⟨h3, p'', h4⟩ | h3
    · exact .inl ⟨h1.trans h3, p'', h4⟩
    · exact .inr (by rw [h1]; exact h3)
  · refine .inr ?_
    cases q : s.heap.get? (rt2 i) with
    | none => rfl
    | some o => obtain ⟨o', e'⟩ := x.alive _ o q; rw [h1] at e'; cases e'

theorem NextIs.trans {ρ1 ρ2 : Ro} {rt1 : Nat → Addr} {s1 s2 : Shared} (x : Stp S b env ρ rt s s1) (ro : RootOk ρ rt s.heap ρ1 rt1) (n : NextIs S sc ns b base env ρ1 rt1 s1 s2 ρ2) : NextIs S sc ns b base env ρ rt s s2 ρ2 := by
  obtain ⟨y, rt2, r2, F⟩ := n
  exact ⟨x.trans ro y, rt2, ro.trans x r2, F⟩

theorem OutIs.trans {ρ1 : Ro} {rt1 : Nat → Addr} {s1 s2 : Shared} {f : Flow} {o : Out} (x : Stp S b env ρ rt s s1) (ro : RootOk ρ rt s.heap ρ1 rt1) (n : OutIs S sc ns b base env ρ1 rt1 s1 f s2 o) : OutIs S sc ns b base env ρ rt s f s2 o := by
  cases o with
  | next ρ2 => exact ⟨n.1, NextIs.trans x ro n.2⟩
  | brk ρ2 => exact ⟨n.1, NextIs.trans x ro n.2⟩
  | cont ρ2 => exact ⟨n.1, NextIs.trans x ro n.2⟩
  | ret p => obtain ⟨v, fp, h1, h2, h3⟩ := n; exact ⟨v, fp, h1, x.trans ro h2, h3⟩

theorem Stp.ofKp (k : Kp S b s s') : Stp S b env ρ rt s s' where
  same := let ⟨h, tk, e, _⟩ := k; ⟨h, tk, e⟩
  keep := by
    obtain ⟨h, tk, rfl, kk, _⟩ := k
    exact fun z o _ hb e => kk z o id hb e
  alive := TabOk.alive k.gd k.keep
theorem RootOk.refl {h : Heap} : RootOk ρ rt h ρ rt := fun i p k e _ => .inl ⟨rfl, p, e⟩
theorem NextIs.ofKp (F : Fm S sc ns base env s.heap ρ rt) (k : Kp S b s s') : NextIs S sc ns b base env ρ rt s s' ρ := ⟨.ofKp k, rt, .refl, F.kp k⟩

theorem Sx.nil {Φ : Out → Prop} (h : Φ (.next ρ)) : Sx S sc ns b d ρ [] Φ := by
  intro A base env s rt Q R F hQ
  exact wpAny_execs_nil (hQ (.next ρ) .next s h ⟨rfl, NextIs.ofKp F (Kp.refl F.gd)⟩)

noncomputable def contOf (S : Sys) (sc : Scope) (ns : List Str) (b : Bool) (d : Nat) (rest : List Stmt) (Φ : Out → Prop) : Out → Prop
  | .next ρ' => Sx S sc ns b d ρ' rest Φ
  | .brk ρ' => Φ (.brk ρ')
  | .cont ρ' => Φ (.cont ρ')
  | .ret p => Φ (.ret p)

theorem Sx.cons {st : Stmt} {rest : List Stmt} {Φ : Out → Prop} (h : S1 S sc ns b d ρ st (contOf S sc ns b d rest Φ)) : Sx S sc ns b d ρ (st :: rest) Φ := by
  intro A base env s rt Q R F hQ
  refine wpAny_execs_cons (h A base env s rt _ R F fun o f s1 ho oi => ?_)
  cases o with
  | next ρ1 =>
    obtain ⟨rfl, x, rt1, ro, F1⟩ := oi
    exact ho A base env s1 rt1 Q R F1 fun o f s2 h2 oi2 => hQ o f s2 h2 (OutIs.trans x ro oi2)
  | brk ρ1 => obtain ⟨rfl, n⟩ := oi; exact hQ (.brk ρ1) .brk s1 ho ⟨rfl, n⟩
  | cont ρ1 => obtain ⟨rfl, n⟩ := oi; exact hQ (.cont ρ1) .cont s1 ho ⟨rfl, n⟩
  | ret p => obtain ⟨v, fp, rfl, n⟩ := oi; exact hQ (.ret p) (.ret v) s1 ho ⟨v, fp, rfl, n⟩

theorem Sx.mono {st : List Stmt} {Φ Ψ : Out → Prop} (h : Sx S sc ns b d ρ st Φ) (k : ∀ o, Φ o → Ψ o) : Sx S sc ns b d ρ st Ψ := by
  intro A base env s rt Q R F hQ
  exact h A base env s rt Q R F fun o f s' ho oi => hQ o f s' (k o ho) oi
theorem S1.mono {st : Stmt} {Φ Ψ : Out → Prop} (h : S1 S sc ns b d ρ st Φ) (k : ∀ o, Φ o → Ψ o) : S1 S sc ns b d ρ st Ψ := by
  intro A base env s rt Q R F hQ
  exact h A base env s rt Q R F fun o f s' ho oi => hQ o f s' (k o ho) oi

noncomputable def Le (ρ' ρ : Ro) : Prop := ρ'.length = ρ.length ∧ ∀ (i : Nat) (x : PV × Own), ρ'[i]? = some (some x) → ρ[i]? = some (some x)
theorem Fm.forget {h : Heap} {ρ' : Ro} (F : Fm S sc ns base env h ρ rt) (l : Le ρ' ρ) : Fm S sc ns base env h ρ' rt where
  gd := F.gd
  kind := F.kind
  kinds := F.kinds
  glob := F.glob
  blt := F.blt
  top := F.top
  alive := F.alive
  nsB := F.nsB
  ns1 := F.ns1
  cellB := F.cellB
  cellInj := F.cellInj
  cellsAll := F.cellsAll
  len := by rw [l.1]; exact F.len
  vars := fun i x p k e1 e2 => by
    obtain ⟨v, fp, V⟩ := F.vars i x p k e1 (l.2 i _ e2)
    exact ⟨v, fp, V.rd, V.rp, V.loc, V.own, fun j q k' e hk hne => V.sep j q k' (l.2 j _ e) hk hne⟩
theorem RootOk.forget {h : Heap} {ρ' : Ro} (l : Le ρ' ρ) : RootOk ρ rt h ρ' rt := fun i p k e _ => .inl ⟨rfl, p, l.2 i _ e⟩
theorem Le.refl : Le ρ ρ := ⟨rfl, fun _ _ e => e⟩
theorem Sx.forget {st : List Stmt} {ρ' : Ro} {Φ : Out → Prop} (l : Le ρ' ρ) (h : Sx S sc ns b d ρ' st Φ) : Sx S sc ns b d ρ st Φ := by
  intro A base env s rt Q R F hQ
  exact h A base env s rt Q R (F.forget l) fun o f s' ho oi => hQ o f s' ho (OutIs.trans (.ofKp (Kp.refl F.gd)) (.forget l) oi)

noncomputable def locCell (sc : Scope) (x : Str) : Bool := match sc.names.lookup x with | some .local => true | some .cell => true | _ => false
theorem locCell_or {x : Str} (h : locCell sc x = true) : sc.names.lookup x = some .local ∨ sc.names.lookup x = some .cell := by
  unfold locCell at h
  split at h <;> first | exact .inl (by assumption) | exact .inr (by assumption) | cases h

theorem Fm.kindOf' {h : Heap} {x : Str} (F : Fm S sc ns base env h ρ rt) : ∀ k, sc.names.lookup x = some k → k ≠ .free → env.kindOf x = some k := fun k e hne => by
  rcases F.kinds x with h | ⟨h, _⟩
  · rw [h, e]
  · rw [e] at h; exact absurd (Option.some.inj h) hne

theorem S1.assign {x : Str} {pos' pos : Pos} {value : Expr} {Φ : Out → Prop} (i : Nat) (hn : ns[i]? = some x) (h : Ev S sc ns b d .C ρ value p) (hΦ : Φ (.next (ρ.set i (some (p, .imm)))))
    (nd : ns.Nodup) (hk : locCell sc x = true) (hs : ∀ env : Env, (∀ k, sc.names.lookup x = some k → k ≠ .free → env.kindOf x = some k) → swapsWith value (some (.Name x pos')) pos.line env = pure false := by intro _ _; rfl) :
    S1 S sc ns b d ρ (.Assign [.Name x pos'] value pos) Φ := by
  intro A base env s rt Q R F hQ
  refine wpAny_Assign_Name (h A base env s rt _ R F fun v s1 fp k r m => ?_) (hs env F.kindOf')
  refine store_ok F k nd hn (locCell_or hk) (rt' := rt) (k := .imm) ⟨r, fun _ _ => rfl, fun y hy => ⟨(m y hy).1, (m y hy).2.1⟩, fun j q k' e hk' _ hm => (m _ hm).2.2 j q k' e hk' rfl, fun hh => absurd rfl hh⟩ fun s' n => ?_
  exact hQ _ .next s' hΦ ⟨rfl, n⟩

noncomputable def flatItem : PV → Bool
  | .tup qs => qs.all (·.atom)
  | .list qs => qs.all (·.atom)
  | p => p.atom
noncomputable def PV.flat : PV → Bool
  | .list ps => ps.all fun p => match p with | .tup qs => qs.all (·.atom) | p => p.atom
  | .dict _ ps => ps.all fun p => match p with | .list qs => qs.all (·.atom) | _ => false
  | _ => false

theorem Rps.tupItems {h : Heap} : ∀ {vs : List Value} {ps : List PV} {fp : List Addr}, Rps S h vs ps fp → (ps.all fun p => match p with | .tup qs => qs.all (·.atom) | p => p.atom) = true → ∀ x ∈ fp, ∃ its, h.IsTuple x its
  | _, _, _, .nil, _, x, hx => by cases hx
  | _, _, _, .cons (p := p) a r, e, x, hx => by
    rw [List.all_cons, Bool.and_eq_true] at e
    rcases List.mem_append.mp hx with hx | hx
    · cases a with
      | int => cases hx
      | bool => cases hx
      | none => cases hx
      | str => cases hx
      | list => cases e.1
      | dict => cases e.1
      | tup h1 h2 h3 =>
        rw [h3.allAtoms e.1] at hx
        rcases List.mem_cons.mp hx with rfl | hx
        · exact ⟨_, h2⟩
        · cases hx
    · exact Rps.tupItems r e.2 x hx
theorem Rps.listItems {h : Heap} : ∀ {vs : List Value} {ps : List PV} {fp : List Addr}, Rps S h vs ps fp → (ps.all fun p => match p with | .list qs => qs.all (·.atom) | _ => false) = true → ∀ x ∈ fp, ∃ its, h.PlainList x its
  | _, _, _, .nil, _, x, hx => by cases hx
  | _, _, _, .cons (p := p) a r, e, x, hx => by
    rw [List.all_cons, Bool.and_eq_true] at e
    rcases List.mem_append.mp hx with hx | hx
    · cases a with
      | int => cases e.1
      | bool => cases e.1
      | none => cases e.1
      | str => cases e.1
      | tup => cases e.1
      | dict => cases e.1
      | list h1 h2 h3 =>
        rw [h3.allAtoms e.1] at hx
        rcases List.mem_cons.mp hx with rfl | hx
        · exact ⟨_, h2⟩
        · cases hx
    · exact Rps.listItems r e.2 x hx

theorem Rp.flatRoot {h : Heap} {v : Value} {fp : List Addr} (r : Rp S h v p fp) (hf : p.flat = true) : ∃ a fp', v = .ref a ∧ fp = a :: fp' ∧ a ∉ fp' ∧ ∃ ob, h.get? a = some ob ∧ ob.dict = Option.none ∧ ∀ vs, ob.data ≠ .fields vs := by
  cases r with
  | int => cases hf
  | bool => cases hf
  | none => cases hf
  | str => cases hf
  | tup => cases hf
  | list h1 h2 h3 =>
    obtain ⟨n, e⟩ := h2
    refine ⟨_, _, rfl, rfl, fun hm => ?_, _, e, rfl, fun vs h => by cases h⟩
    obtain ⟨its, o, e', e2, _⟩ := h3.tupItems hf _ hm
    rw [e] at e'; cases e'; exact absurd (show Value.type "list" = Value.type "tuple" from e2) (by decide)
  | dict h1 h2 h3 h4 h5 =>
    obtain ⟨o, es, ep, e, ex, e2, _⟩ := h4
    refine ⟨_, _, rfl, rfl, fun hm => ?_, o, e, ex.2.1, fun vs h => by rw [h] at e2; cases e2⟩
    obtain ⟨its, n, e'⟩ := h5.listItems hf _ hm
    rw [e] at e'; cases e'; cases e2

theorem S1.assignOwn {x : Str} {pos' pos : Pos} {value : Expr} {Φ : Out → Prop} (i : Nat) (hn : ns[i]? = some x) (h : Ev S sc ns b d .F ρ value p) (hf : p.flat = true) (hΦ : Φ (.next (ρ.set i (some (p, .mut)))))
    (nd : ns.Nodup) (hk : locCell sc x = true) (hs : ∀ env : Env, (∀ k, sc.names.lookup x = some k → k ≠ .free → env.kindOf x = some k) → swapsWith value (some (.Name x pos')) pos.line env = pure false := by intro _ _; rfl) :
    S1 S sc ns b d ρ (.Assign [.Name x pos'] value pos) Φ := by
  intro A base env s rt Q R F hQ
  refine wpAny_Assign_Name (h A base env s rt _ R F fun v s1 fp k r m => ?_) (hs env F.kindOf')
  obtain ⟨a, fp', rfl, e1, e2, e3⟩ := r.flatRoot hf
  have c := Clean.fresh F m
  refine store_ok F k nd hn (locCell_or hk) (rt' := fun j => if j = i then a else rt j) (k := .mut) ⟨r, fun j hj => by simp [hj], fun y hy => ⟨(c y hy).1, (c y hy).2.1⟩, fun j q k' e hk' _ hm => (c _ hm).2.2 j q k' e hk' rfl, fun _ => ?_⟩ fun s' n => ?_
  · show Value.ref a = Value.ref (if i = i then a else rt i) ∧ _ ∧ (∃ ob, s1.heap.get? (if i = i then a else rt i) = _ ∧ _) ∧ _
    rw [if_pos rfl]
    exact ⟨rfl, m, e3, fp', e1, e2⟩
  · exact hQ _ .next s' hΦ ⟨rfl, n⟩

theorem S1.if {t : Expr} {b1 b2 : List Stmt} {pos : Pos} {c : Bool} {Φ : Out → Prop} (h : Tr S sc ns b d ρ t c) (h1 : c = true → Sx S sc ns b d ρ b1 Φ) (h2 : c = false → Sx S sc ns b d ρ b2 Φ) : S1 S sc ns b d ρ (.If t b1 b2 pos) Φ := by
  intro A base env s rt Q R F hQ
  refine wpAny_If (h A base env s rt _ R F fun s1 k => ?_)
  have fin : ∀ {st}, Sx S sc ns b d ρ st Φ → wpAny (model S.prog S.w) A (execs st env) Q No s1 := fun hx =>
    hx A base env s1 rt Q R (F.kp k) fun o f s' ho oi => hQ o f s' ho (OutIs.trans (.ofKp k) .refl oi)
  cases c with
  | true => exact fin (h1 rfl)
  | false => exact fin (h2 rfl)

theorem S1.ret {e : Expr} {pos : Pos} {Φ : Out → Prop} (h : Ev S sc ns b d .F ρ e p) (hΦ : Φ (.ret p)) : S1 S sc ns b d ρ (.Return (some e) pos) Φ := by
  intro A base env s rt Q R F hQ
  refine wpAny_Return_some (h A base env s rt _ R F fun v s1 fp k r m => ?_)
  refine hQ _ (.ret v) s1 hΦ ⟨v, fp, rfl, .ofKp k, k.gd, r, fun x hx => ?_⟩
  cases hb : base.get? x with
  | none => rfl
  | some o => obtain ⟨o', e'⟩ := F.alive x o hb; rw [m x hx] at e'; cases e'
theorem S1.retOwn {x : Str} {pos' pos : Pos} {Φ : Out → Prop} {k : Own} (i : Nat) (hn : ns[i]? = some x) (hρ : ρ[i]? = some (some (p, k))) (hk : k ≠ .imm) (hΦ : Φ (.ret p)) (hd : (x == ("__debug__" : Str)) = false := by decide) : S1 S sc ns b d ρ (.Return (some (.Name x pos')) pos) Φ := by
  intro A base env s rt Q R F hQ
  refine wpAny_Return_some ?_
  obtain ⟨v, fp, V⟩ := F.vars i x p k hn hρ
  have fin : Q (.ret v) s := hQ _ (.ret v) s hΦ ⟨v, fp, rfl, .ofKp (Kp.refl F.gd), F.gd, V.rp, (V.own hk).2.1⟩
  rcases V.rd with ⟨a, m, n, e⟩ | ⟨a, c, e, n⟩
  · exact wpAny_Name (wpAny_loadName_local F.kind a n e fin) hd
  · exact wpAny_Name (loadCF F.kind a e n fin) hd

theorem S1.break {pos : Pos} {Φ : Out → Prop} (hΦ : Φ (.brk ρ)) : S1 S sc ns b d ρ (.Break pos) Φ := by
  intro A base env s rt Q R F hQ
  exact wpAny_Break (hQ _ .brk s hΦ ⟨rfl, NextIs.ofKp F (Kp.refl F.gd)⟩)

theorem S1.aug {x : Str} {pos' pos : Pos} {op : Operator} {value : Expr} {Φ : Out → Prop} {q1 : Md} {k : Own} (i : Nat) (hn : ns[i]? = some x) (hρ : ρ[i]? = some (some (p1, k))) (h : Ev S sc ns b d q1 ρ value p2) (o : Op2 S b d (inplaceOp op) p1 p2 p)
    (hΦ : Φ (.next (ρ.set i (some (p, .imm))))) (nd : ns.Nodup) (hk : locCell sc x = true) : S1 S sc ns b d ρ (.AugAssign (.Name x pos') op value pos) Φ := by
  intro A base env s rt Q R F hQ
  obtain ⟨v, fp, V⟩ := F.vars i x p1 k hn hρ
  refine wpAny_AugAssign_Name ?_
  have fin : wpAny (model S.prog S.w) A (eval value env) (fun v' s₂ => wpAny (model S.prog S.w) A (inplaceOp op v v') (fun r s₃ => wpAny (model S.prog S.w) A (storeName env x r) (fun _ => Q .next) No s₃) No s₂) No s := by
    refine h A base env s rt _ R F fun v2 s2 f2 k2 r2 _ => ?_
    refine o A s2 v v2 fp f2 _ R k2.gd (V.rp.kp k2) r2 fun v3 s3 f3 k3 r3 m3 => ?_
    have k13 := k2.trans k3
    have c := Clean.fresh F fun x hx => k2.dead (m3 x hx)
    refine store_ok F k13 nd hn (locCell_or hk) (rt' := rt) (k := .imm) ⟨r3, fun _ _ => rfl, fun y hy => ⟨(c y hy).1, (c y hy).2.1⟩, fun j q k' e hk' _ hm => (c _ hm).2.2 j q k' e hk' rfl, fun hh => absurd rfl hh⟩ fun s' n => ?_
    exact hQ _ .next s' hΦ ⟨rfl, n⟩
  rcases V.rd with ⟨a, m, n, e⟩ | ⟨a, c, e, n⟩
  · exact wpAny_loadName_local F.kind a n e fin
  · exact loadCF F.kind a e n fin

theorem i_xor {x y : Int} : Op2 S b d (inplaceOp .BitXor) (.int x) (.int y) (.int (Builtin.bitXor x y)) := by
  intro A s v1 v2 f1 f2 Q R G r1 r2 h; (first | obtain ⟨_, rfl, rfl⟩ := r1.inv | cases r1); (first | obtain ⟨_, rfl, rfl⟩ := r2.inv | cases r2); exact PyProof.Rows.ixor_int (h.int G)
theorem i_add {x y : Int} : Op2 S b d (inplaceOp .Add) (.int x) (.int y) (.int (x + y)) := by
  intro A s v1 v2 f1 f2 Q R G r1 r2 h; (first | obtain ⟨_, rfl, rfl⟩ := r1.inv | cases r1); (first | obtain ⟨_, rfl, rfl⟩ := r2.inv | cases r2); exact PyProof.Rows.iadd_int (h.int G)
end
end Mine
open PySem PySem.Calls PyProof.Rows PySem.W
set_option Elab.async false
set_option autoImplicit false
set_option linter.unusedVariables false
namespace Mine
section
variable {S : Sys} {sc : Scope} {ns : List Str} {base : Heap} {env : Env} {s s' s0 : Shared} {ρ : Ro} {rt : Nat → Addr} {b : Bool} {d : Nat} {q : Md} {p p1 p2 p' : PV} {mg mb : Str → Option Value}

theorem Fm.mutated {i : Nat} {x : Str} {v : Value} {fp0 fp2 : List Addr} {h' : Heap} (F0 : Fm S sc ns base env s0.heap ρ rt) (k0 : Kp S b s0 s) (hn : ns[i]? = some x) (hρ : ρ[i]? = some (some (p, .mut)))
    (V0 : Var S base env s0.heap ρ rt i x p .mut v fp0) (hs : Heap.SameBut (rt i) s.heap h') (r : Rp S h' (.ref (rt i)) p' (rt i :: fp2)) (hnr : rt i ∉ fp2)
    (hf : ∀ y ∈ fp2, y ∈ fp0 ∨ s0.heap.get? y = none) (hpl : ∃ ob, h'.get? (rt i) = some ob ∧ ob.dict = none ∧ ∀ vs, ob.data ≠ .fields vs) (tk : Nat) :
    NextIs S sc ns b base env ρ rt s0 { s with heap := h', toks := tk } (ρ.set i (some (p', .mut))) := by
  have F := F0.kp k0
  obtain ⟨v1, v2, ⟨ob0, v3, v4, v5⟩, fp0', v6, v7⟩ := V0.own (by intro h; cases h)
  have aR : rt i ∈ fp0 := by rw [v6]; exact .head _
  have lv := V0.rp.lives (rt i) aR
  have aL := V0.loc (rt i) aR
  have v3' : s.heap.get? (rt i) = some ob0 := k0.keep _ _ lv.1 v3
  have hb : base.get? (rt i) = none := v2 _ aR
  have g : Gd S h' := F.gd.sameBut hs (F.topNone hb) (fun o e vs hd => by rw [v3'] at e; cases e; exact v5 _ hd) ⟨_, v3'⟩
  obtain ⟨obn, pn1, pn2, pn3⟩ := hpl
  have li : i < ρ.length := (List.getElem?_eq_some_iff.mp hρ).1
  have getI : (ρ.set i (some (p', Own.mut)))[i]? = some (some (p', Own.mut)) := by rw [List.getElem?_set_self li]
  obtain ⟨hh, tk0, es, ek, _⟩ := id k0
  refine ⟨⟨⟨h', tk, by rw [es]⟩, fun y o hy hb e => ?_, fun y o e => ?_⟩, rt, fun j q k' e hk => ?_, ?_⟩
  · have hya : y ≠ rt i := fun e => hy (.inr (.inr ⟨i, p, hρ, e.symm⟩))
    refine (hs.2 y hya).trans ?_
    rw [es]
    exact ek y o id hb e
  · by_cases hya : y = rt i
    · subst hya; exact ⟨_, pn1⟩
    · obtain ⟨o', e'⟩ := TabOk.alive k0.gd k0.keep y o e
      exact ⟨o', (hs.2 y hya).trans e'⟩
  · by_cases hji : j = i
    · subst hji; rw [getI] at e; cases e; exact .inl ⟨rfl, p, hρ⟩
    · rw [getElem?_set_ne' hji] at e; exact .inl ⟨rfl, q, e⟩
  · refine ⟨g, F.kind, F.kinds, F.glob, F.blt, F.top, fun y o e => ?_, F.nsB, ?_, fun c hc => ?_, F.cellInj, F.cellsAll, by rw [List.length_set]; exact F.len, fun j y pj kj ey e => ?_⟩
    · obtain ⟨o', e'⟩ := F.alive y o e
      have : y ≠ rt i := fun e' => by rw [e', hb] at e; cases e
      exact ⟨o', (hs.2 y this).trans e'⟩
    · obtain ⟨m, n⟩ := F.ns1; exact ⟨m, n.sameBut hs (Ne.symm aL.1)⟩
    · obtain ⟨c1, v, o, e, e2⟩ := F.cellB c hc
      exact ⟨c1, v, o, (hs.2 c fun e => aL.2 (e ▸ hc)).trans e, e2⟩
    · have rdOk : ∀ {y w}, Reads env s0.heap y w → Reads env h' y w := fun rd => by
        rcases rd.grow F0.gd k0.keep with ⟨r1, m', r2, r3⟩ | ⟨r1, c, r2, o, r3, r4⟩
        · exact .inl ⟨r1, m', r2.sameBut hs (Ne.symm aL.1), r3⟩
        · exact .inr ⟨r1, c, r2, o, (hs.2 c fun e => aL.2 (e ▸ ⟨_, r2⟩)).trans r3, r4⟩
      by_cases hji : j = i
      · subst hji
        rw [hn] at ey; cases ey
        rw [getI] at e; cases e
        refine ⟨.ref (rt j), rt j :: fp2, rdOk (v1 ▸ V0.rd), r, fun z hz => ?_, fun _ => ⟨rfl, fun z hz => ?_, ⟨obn, pn1, pn2, pn3⟩, fp2, rfl, hnr⟩, fun j' q' k' e' hk' hne => ?_⟩
        · rcases List.mem_cons.mp hz with rfl | hz
          · exact aL
          · rcases hf z hz with hz | hz
            · exact V0.loc z hz
            · have c := Clean.fresh F0 (fp := [z]) (fun y hy => by cases hy with | head => exact hz | tail _ h => cases h) z (.head _)
              exact ⟨c.1, c.2.1⟩
        · rcases List.mem_cons.mp hz with rfl | hz
          · exact hb
          · rcases hf z hz with hz | hz
            · exact v2 z hz
            · cases hq : base.get? z with
              | none => rfl
              | some o => obtain ⟨o', e'⟩ := F0.alive z o hq; rw [hz] at e'; cases e'
        · rw [getElem?_set_ne' hne] at e'
          intro hm
          rcases List.mem_cons.mp hm with hm | hm
          · exact V0.sep j' q' k' e' hk' hne (hm ▸ aR)
          · rcases hf _ hm with hz | hz
            · exact V0.sep j' q' k' e' hk' hne hz
            · obtain ⟨y', ey'⟩ := F0.name e'
              obtain ⟨_, _, V'⟩ := F0.vars j' y' q' k' ey' e'
              obtain ⟨_, _, ⟨ob, e'', _⟩, _⟩ := V'.own hk'
              rw [hz] at e''; cases e''
      · rw [getElem?_set_ne' hji] at e
        obtain ⟨w, fpj, Vj⟩ := F0.vars j y pj kj ey e
        have na : rt i ∉ fpj := Vj.sep i p .mut hρ (by intro h; cases h) (Ne.symm hji)
        have ne : ∀ z ∈ fpj, z ≠ rt i := fun z hz e => na (e ▸ hz)
        refine ⟨w, fpj, rdOk Vj.rd, (Vj.rp.kp k0).mono fun z hz o e => (hs.2 z (ne z hz)).trans e, Vj.loc, fun hk => ?_, fun j' q' k' e' hk' hne => ?_⟩
        · obtain ⟨o1, o2, ⟨ob, o3, o4⟩, fp', o5, o6⟩ := Vj.own hk
          have hl := Vj.rp.lives (rt j) (by rw [o5]; exact .head _)
          exact ⟨o1, o2, ⟨ob, (hs.2 _ (ne _ (by rw [o5]; exact .head _))).trans (k0.keep _ _ hl.1 o3), o4⟩, fp', o5, o6⟩
        · by_cases hj' : j' = i
          · subst hj'; exact na
          · rw [getElem?_set_ne' hj'] at e'
            exact Vj.sep j' q' k' e' hk' hne

theorem Var.name {A : Around} {i : Nat} {x : Str} {k : Own} {v : Value} {fp : List Addr} {pos : Pos} {Q : Value → Shared → Prop} (F : Fm S sc ns base env s.heap ρ rt) (V : Var S base env s.heap ρ rt i x p k v fp) (hd : (x == ("__debug__" : Str)) = false) (h : Q v s) :
    wpAny (model S.prog S.w) A (eval (.Name x pos) env) Q No s := by
  rcases V.rd with ⟨a, m, n, e⟩ | ⟨a, c, e, n⟩
  · exact wpAny_Name (wpAny_loadName_local F.kind a n e h) hd
  · exact wpAny_Name (loadCF F.kind a e n h) hd

theorem notInteractive (F : Fm S sc ns base env s.heap ρ rt) : interactive env = false := by
  unfold interactive
  rw [F.kind]; rfl

theorem mem_flatL {h : Heap} {vs : List Value} {ps : List PV} {fp : List Addr} {a : Addr} (hl : ∃ n, h.get? a = some { cls := .type "list", data := .seq vs.toArray n }) (r : Rps S h vs ps fp) (hf : (PV.list ps).flat = true) : a ∉ fp := fun hm => by
  obtain ⟨its, o, e', e2, _⟩ := r.tupItems hf _ hm
  obtain ⟨n, e⟩ := hl
  rw [e] at e'; cases e'; exact absurd (show Value.type "list" = Value.type "tuple" from e2) (by decide)

theorem S1.append {x : Str} {xp ap cp pos : Pos} {e : Expr} {ps : List PV} {Φ : Out → Prop} (i : Nat) (hn : ns[i]? = some x) (hρ : ρ[i]? = some (some (.list ps, .mut))) (h : Ev S sc ns b d .F ρ e p)
    (hfl : (PV.list (ps ++ [p])).flat = true) (hsz : ps.length ≤ sizeLine) (hΦ : Φ (.next (ρ.set i (some (.list (ps ++ [p]), .mut))))) (hd : (x == ("__debug__" : Str)) = false := by decide)
    (hline : (ap.endLine == cp.line) = true := by rfl) (he : ∀ env, starEach [e] env = [(false, eval e env)] := by intro _; rfl)
    (hs : ∀ env, swapsWith (.Call (.Attribute (.Name x xp) "append" ap) [e] [] cp) none pos.line env = pure false := by intro _; rfl) :
    S1 S sc ns b d ρ (.Expr (.Call (.Attribute (.Name x xp) "append" ap) [e] [] cp) pos) Φ := by
  intro A base env s rt Q R F hQ
  obtain ⟨v, fp, V⟩ := F.vars i x _ _ hn hρ
  obtain ⟨v1, v2, _, fp0', v6, v7⟩ := V.own (by intro h; cases h)
  subst v1
  have ht : backTo cp (starEach [e] env) = [(false, eval e env)] := by rw [he env]; rfl
  refine wpAny_Expr_any ?_ (notInteractive F) (hs env)
  refine wpAny_Call_append rfl (by rw [ht]; rfl) hline ht (Var.name F V hd ?_)
  have rp := V.rp
  cases rp with
  | @list _ vs _ fpl g1 g2 g3 =>
  obtain ⟨n0, e0⟩ := id g2
  refine ⟨rt i, vs.toArray, rfl, ⟨_, n0, e0, rfl, rfl, rfl⟩, h A base env s rt _ R F fun v1 s1 f1 k1 r1 m1 => ?_⟩
  have g2' : s1.heap.PlainList (rt i) vs.toArray := g2.at fun o e => k1.keep _ o g1 e
  refine wpAny_list_append_plain g2' (fun h' hp hs => ?_) (by rw [List.size_toArray, g3.length]; exact hsz)
  have hpl : h'.PlainList (rt i) (vs ++ [v1]).toArray := by
    have : (vs ++ [v1]).toArray = vs.toArray.push v1 := by simp
    rw [this]; exact hp
  have old : Rps S s1.heap vs ps fpl := g3.mono fun y hy o e => k1.keep y o (g3.lives y hy).1 e
  have new : Rps S s1.heap (vs ++ [v1]) (ps ++ [p]) (fpl ++ f1) := by
    have := old.append (.cons r1 .nil)
    simpa using this
  have neA : ∀ y ∈ fpl ++ f1, y ≠ rt i := fun y hy e => by
    subst e
    rcases List.mem_append.mp hy with hy | hy
    · exact v7 ((List.cons.inj v6).2 ▸ hy)
    · have := m1 _ hy; rw [e0] at this; cases this
  have new' : Rps S h' (vs ++ [v1]) (ps ++ [p]) (fpl ++ f1) := new.mono fun y hy o e => (hs.2 y (neA y hy)).trans e
  obtain ⟨n', e'⟩ := id hpl
  have := F.mutated k1 hn hρ V hs (.list g1 hpl new') (mem_flatL hpl new' hfl) (fun y hy => (List.mem_append.mp hy).imp (fun h => by exact .tail _ h) (m1 y)) ⟨_, e', rfl, fun _ h => by cases h⟩ s1.toks
  exact hQ _ .next _ hΦ ⟨rfl, this⟩

theorem Rps.setAtom {h : Heap} {v : Value} : ∀ {vs : List Value} {ps : List PV} {fp : List Addr}, Rps S h vs ps fp → fp = [] → Rp S h v p [] → ∀ k : Nat, Rps S h (vs.set k v) (ps.set k p) []
  | _, _, _, .nil, _, _, _ => .nil
  | _, _, _, .cons a r, e, rv, 0 => by
    obtain ⟨e1, e2⟩ := List.append_eq_nil_iff.mp e
    subst e1; subst e2
    exact .cons (f1 := []) rv r
  | _, _, _, .cons a r, e, rv, k + 1 => by
    obtain ⟨e1, e2⟩ := List.append_eq_nil_iff.mp e
    subst e1; subst e2
    exact .cons (f1 := []) a (Rps.setAtom r rfl rv k)

theorem flat_atoms {ps : List PV} (h : ps.all (·.atom) = true) : (PV.list ps).flat = true := by
  unfold PV.flat
  rw [List.all_eq_true] at h ⊢
  intro x hx
  have := h x hx
  cases x <;> first | exact this | cases this

theorem all_set_atom {ps : List PV} (h : ps.all (·.atom) = true) (ha : p.atom = true) (k : Nat) : (ps.set k p).all (·.atom) = true := by
  rw [List.all_eq_true] at h ⊢
  intro x hx
  rcases List.mem_or_eq_of_mem_set hx with hx | rfl
  · exact h x hx
  · exact ha

theorem setItem_own {A : Around} {i : Nat} {x : Str} {ps : List PV} {k : Int} {t : Tok} {v w : Value} {fp : List Addr} {Q : Unit → Shared → Prop} (F0 : Fm S sc ns base env s0.heap ρ rt) (k0 : Kp S b s0 s) (hn : ns[i]? = some x) (hρ : ρ[i]? = some (some (.list ps, .mut)))
    (V0 : Var S base env s0.heap ρ rt i x (.list ps) .mut w fp) (r : Rp S s.heap v p []) (ha : ps.all (·.atom) = true) (hk : 0 ≤ k) (hk2 : k < ps.length) (hfit : k < 2 ^ 63)
    (h : ∀ s', NextIs S sc ns b base env ρ rt s0 s' (ρ.set i (some (.list (ps.set k.toNat p), .mut))) → Q () s') : wpAny (model S.prog S.w) A (setItem (.ref (rt i)) (.int k t) v) Q No s := by
  obtain ⟨v1, v2, _, fp0', v6, v7⟩ := V0.own (by intro h; cases h)
  subst v1
  have rp := V0.rp
  cases rp with
  | @list _ vs _ fpl g1 g2 g3 =>
  have e0 := g3.allAtoms ha
  subst e0
  obtain ⟨n, e⟩ := g2.at (h' := s.heap) fun o e => k0.keep _ o g1 e
  have hlen : vs.length = ps.length := g3.length
  refine ki_setAt e hk hfit (by rw [List.size_toArray]; (first | lia | omega)) ?_
  have hs : Heap.SameBut (rt i) s.heap (s.heap.update (rt i) (Obj.mapSeq (·.setIfInBounds k.toNat v))) := Heap.SameBut.update ..
  have eo : Obj.mapSeq (·.setIfInBounds k.toNat v) { cls := .type "list", data := .seq vs.toArray n } = { cls := .type "list", data := .seq (vs.set k.toNat v).toArray n } := by
    have : vs.toArray.setIfInBounds k.toNat v = (vs.set k.toNat v).toArray := by apply Array.toList_inj.mp; simp
    simp [Obj.mapSeq, this]
  have eg : (s.heap.update (rt i) (Obj.mapSeq (·.setIfInBounds k.toNat v))).get? (rt i) = some { cls := .type "list", data := .seq (vs.set k.toNat v).toArray n } := by
    rw [Heap.get?_update_self _ e (by rw [eo]; rfl), eo]
  have new : Rps S (s.heap.update (rt i) (Obj.mapSeq (·.setIfInBounds k.toNat v))) (vs.set k.toNat v) (ps.set k.toNat p) [] :=
    ((g3.setAtom rfl (r.mono fun y hy => by cases hy) k.toNat) : Rps S s0.heap _ _ []).mono fun y hy => by cases hy
  exact h _ (F0.mutated k0 hn hρ V0 hs (.list g1 ⟨n, eg⟩ new) (by intro h; cases h) (fun y hy => by cases hy) ⟨_, eg, rfl, fun _ h => by cases h⟩ s.toks)

theorem S1.putItem {x : Str} {xp sp pos : Pos} {ie value : Expr} {ps : List PV} {k : Int} {Φ : Out → Prop} {q1 q2 : Md} (i : Nat) (hn : ns[i]? = some x) (hρ : ρ[i]? = some (some (.list ps, .mut)))
    (hv : Ev S sc ns b d q1 ρ value p) (hi : Ev S sc ns b d q2 ρ ie (.int k)) (hp : p.atom = true) (ha : ps.all (·.atom) = true) (hk : 0 ≤ k) (hk2 : k < ps.length) (hfit : k < 2 ^ 63)
    (hΦ : Φ (.next (ρ.set i (some (.list (ps.set k.toNat p), .mut))))) (hd : (x == ("__debug__" : Str)) = false := by decide)
    (hs : ∀ env, swapsWith value (some (.Subscript (.Name x xp) ie sp)) pos.line env = pure false := by intro _; rfl) :
    S1 S sc ns b d ρ (.Assign [.Subscript (.Name x xp) ie sp] value pos) Φ := by
  intro A base env s rt Q R F hQ
  refine wpAny_Assign_Subscript (hv A base env s rt _ R F fun v s1 f1 k1 r1 _ => ?_) (hs env)
  have e1 := r1.atomNil hp
  subst e1
  have F1 := F.kp k1
  obtain ⟨w, fp, V⟩ := F1.vars i x _ _ hn hρ
  obtain ⟨w0, fp0, V0⟩ := F.vars i x _ _ hn hρ
  refine Var.name F1 V hd ?_
  obtain ⟨v1, _⟩ := V.own (by intro h; cases h)
  subst v1
  refine hi A base env s1 rt _ R F1 fun v2 s2 f2 k2 r2 _ => ?_
  (first | obtain ⟨_, rfl, rfl⟩ := r2.inv | cases r2)
  exact setItem_own F (k1.trans k2) hn hρ V0 (r1.kp k2) ha hk hk2 hfit fun s' n => hQ _ .next s' hΦ ⟨rfl, n⟩

theorem S1.augItem {x : Str} {xp sp pos : Pos} {op : Operator} {ie value : Expr} {ps : List PV} {k : Int} {Φ : Out → Prop} {q1 q2 : Md} (i : Nat) (hn : ns[i]? = some x) (hρ : ρ[i]? = some (some (.list ps, .mut)))
    (hi : Ev S sc ns b d q2 ρ ie (.int k)) (hx : ps[k.toNat]? = some p1) (hv : Ev S sc ns b d q1 ρ value p2) (o : Op2 S b d (inplaceOp op) p1 p2 p) (hp : p.atom = true) (ha : ps.all (·.atom) = true) (hk : 0 ≤ k) (hfit : k < 2 ^ 63)
    (hΦ : Φ (.next (ρ.set i (some (.list (ps.set k.toNat p), .mut))))) (hd : (x == ("__debug__" : Str)) = false := by decide)
    (hg : ∀ ov iv new, augStore ie ov iv new = (do holding [new, ov, iv] (setItem ov iv new); release [new, ov, iv] []; pure .next) := by intros; rfl) :
    S1 S sc ns b d ρ (.AugAssign (.Subscript (.Name x xp) ie sp) op value pos) Φ := by
  intro A base env s rt Q R F hQ
  obtain ⟨w0, fp0, V0⟩ := F.vars i x _ _ hn hρ
  refine wpAny_AugAssign_SubscriptAny (Var.name F V0 hd ?_) hg
  have v1 := (V0.own (by intro h; cases h)).1
  subst v1
  refine hi A base env s rt _ R F fun v2 s2 f2 k2 r2 _ => ?_
  (first | obtain ⟨_, rfl, rfl⟩ := r2.inv | cases r2)
  have rp := V0.rp.kp k2
  cases rp with
  | @list _ vs _ fpl g1 g2 g3 =>
  obtain ⟨v, f, e, r, hf⟩ := g3.get hx
  refine wpAny_getItem_list g2.isList hk hfit (by simpa using e) ?_
  refine hv A base env s2 rt _ R (F.kp k2) fun v3 s3 f3 k3 r3 _ => ?_
  refine o A s3 v v3 f f3 _ R k3.gd (r.kp k3) r3 fun v4 s4 f4 k4 r4 _ => ?_
  have e4 := r4.atomNil hp
  subst e4
  have hk2 : k < ps.length := by
    have := (List.getElem?_eq_some_iff.mp hx).1
    (first | lia | omega)
  exact setItem_own F ((k2.trans k3).trans k4) hn hρ V0 r4 ha hk hk2 hfit fun s' n => hQ _ .next s' hΦ ⟨rfl, n⟩
end
end Mine
open PySem PySem.Calls PyProof.Rows PySem.W
set_option Elab.async false
set_option autoImplicit false
set_option linter.unusedVariables false
namespace Mine
section
variable {S : Sys} {sc : Scope} {ns : List Str} {base : Heap} {env : Env} {s s' s0 : Shared} {ρ : Ro} {rt : Nat → Addr} {b : Bool} {d : Nat} {q : Md} {p p1 p2 p' : PV} {mg mb : Str → Option Value}

noncomputable def Itr (h : Heap) (I : Addr) : Prop := ∃ o vs, h.get? I = some o ∧ o.cls ≠ .none ∧ o.data = .fields vs ∧ ∀ x t, vs[1]? ≠ some (.str x t)

structure Iter (S : Sys) (b : Bool) (A : Around) (env : Env) (ρ : Ro) (rt : Nat → Addr) (s : Shared) (items : List PV) (s2 : Shared) (I : Addr) (fp : List Addr) (P : Nat → Value → Prop) (St : Nat → Heap → Prop) : Prop where
  kp : Kp S b s s2
  fresh : s.heap.get? I = none
  W : Walks S.prog S.w A I fp [I] items.length P St
  st : St 0 s2.heap
  fpOk : ∀ x ∈ fp, x ∉ S.TB ∧ ¬ ownOf env ρ rt x ∧ ∃ o, s2.heap.get? x = some o
  itr : ∀ j h, St j h → Itr h I
  item : ∀ j v, P j v → ∃ p f, items[j]? = some p ∧ Rp S s2.heap v p f ∧ Clean env ρ rt f

noncomputable def It (S : Sys) (sc : Scope) (ns : List Str) (b : Bool) (d : Nat) (ρ : Ro) (e : Expr) (items : List PV) : Prop :=
  ∀ (A : Around) (base : Heap) (env : Env) (s : Shared) (rt : Nat → Addr) (Q : Value → Shared → Prop), Room d A → Fm S sc ns base env s.heap ρ rt →
    (∀ s2 I fp P St, Iter S b A env ρ rt s items s2 I fp P St → Q (.ref I) s2) → wpAny (model S.prog S.w) A (eval e env) (fun x s₁ => wpAny (model S.prog S.w) A (pyIter x) Q No s₁) No s

theorem Clean.nil : Clean env ρ rt [] := fun _ h => by cases h
theorem MdOk.toN {fp : List Addr} (h : MdOk .C s env ρ rt fp) : MdOk .N s env ρ rt fp := fun x hx ho => by
  have c := h x hx
  rcases ho with ho | ho | ⟨i, p, e, hr⟩
  · exact c.1 ho
  · exact c.2.1 ho
  · exact c.2.2 i p .mut e (by intro h; cases h) hr
theorem Ev.toN {e : Expr} (h : Ev S sc ns b d .C ρ e p) : Ev S sc ns b d .N ρ e p := by
  intro A base env s rt Q R F hQ
  exact h A base env s rt Q R F fun v s' fp k r m => hQ v s' fp k r m.toN
theorem Ev.toR {e : Expr} {q : Md} (h : Ev S sc ns b d q ρ e p) : Ev S sc ns b d .R ρ e p := by
  intro A base env s rt Q R F hQ
  exact h A base env s rt Q R F fun v s' fp k r m => hQ v s' fp k r trivial

theorem It.list {e : Expr} {ps : List PV} (h : Ev S sc ns b d .N ρ e (.list ps)) (ha : ps.all (·.atom) = true) : It S sc ns b d ρ e ps := by
  intro A base env s rt Q R F hQ
  refine h A base env s rt _ R F fun v s1 fp k r m => ?_
  cases r with
  | @list a vs _ fpl g1 g2 g3 =>
  have e0 := g3.allAtoms ha
  subst e0
  refine wpAny_pyIter_list g2.isList ?_
  have keep := Heap.push_keeps (h := s1.heap) { cls := .type "list_iterator", data := .fields #[.ref a, .int 0 0] }
  obtain ⟨n, e⟩ := id g2
  have hne : a ≠ s1.heap.objs.size := fresh_ne e
  have W := Walks.list (prog := S.prog) (w := S.w) R.hd s1.heap.objs.size a hne vs.toArray
  have hsz : vs.toArray.size = ps.length := by rw [List.size_toArray, g3.length]
  rw [hsz] at W
  refine hQ _ s1.heap.objs.size [s1.heap.objs.size, a] _ _ ⟨k.trans (Kp.of_keeps (tk := s1.toks) k.gd keep), k.dead (fresh_size _), W, ?_, fun x hx => ?_, fun j h st => ?_, fun j v hv => ?_⟩
  · exact ⟨⟨_, Heap.get?_push_size _ rfl, rfl, rfl⟩, g2.isList.at fun o e => keep _ o e⟩
  · rcases List.mem_cons.mp hx with rfl | hx
    · refine ⟨size_notTB k.gd, fun ho => ?_, _, Heap.get?_push_size _ rfl⟩
      exact MdOk.ofF F (fp := [s1.heap.objs.size]) (fun y hy => by cases hy with | head => exact k.dead (fresh_size _) | tail _ h => cases h) .N _ (.head _) ho
    · rcases List.mem_cons.mp hx with rfl | hx
      · exact ⟨g1, m _ (.head _), _, keep _ _ e⟩
      · cases hx
  · obtain ⟨⟨o, e1, e2, e3⟩, _⟩ := st
    exact ⟨o, _, e1, (by rw [e2]; intro h; cases h), e3, fun x t h => by simp at h⟩
  · obtain ⟨p, f, e1, e2, e3⟩ := g3.get' (i := j) (v := v) (by simpa using hv)
    have : f = [] := List.eq_nil_iff_forall_not_mem.mpr fun x hx => by cases e3 x hx
    subst this
    exact ⟨p, [], e1, e2.mono fun x hx => (by cases hx), Clean.nil⟩

theorem range_items {lo : Int} {n j : Nat} (h : j < n) : (((List.range n).map fun (i : Nat) => PV.int (lo + i)))[j]? = some (PV.int (lo + j)) := by
  rw [List.getElem?_map, List.getElem?_range h]; rfl

theorem iter_range {A : Around} {lo hi : Int} {r : Addr} {t u v : Tok} {Q : Value → Shared → Prop} {s1 : Shared} (R : Room d A) (F : Fm S sc ns base env s.heap ρ rt) (k : Kp S b s s1) (hr : IsRange s1.heap r lo hi 1 t u v)
    (h1 : -(2 ^ 62) ≤ lo) (h2 : lo < 2 ^ 62) (h3 : -(2 ^ 62) ≤ hi) (h4 : hi < 2 ^ 62)
    (hQ : ∀ s2 I fp P St, Iter S b A env ρ rt s ((List.range (hi - lo).toNat).map fun (i : Nat) => PV.int (lo + i)) s2 I fp P St → Q (.ref I) s2) : wpAny (model S.prog S.w) A (pyIter (.ref r)) Q No s1 := by
  refine wpAny_pyIter_range hr (small_one h1 h2 h3 h4) ?_
  have hsz : Builtin.Range.rangeSize lo hi 1 = ((hi - lo).toNat : Int) := by rw [rangeSize_one]; split <;> (first | lia | omega)
  rw [hsz]
  have keep := Heap.push_keeps (h := s1.heap) { cls := .type "range_iterator", data := .fields #[rawInt lo, rawInt ((hi - lo).toNat : Int), rawInt 1] }
  have W := Walks.range (prog := S.prog) (w := S.w) R.hd s1.heap.objs.size lo 1 (hi - lo).toNat
  refine hQ _ s1.heap.objs.size [s1.heap.objs.size] (fun i v => i < (hi - lo).toNat ∧ ∃ t, v = .int (lo + i * 1) t) (fun i h => IsRangeIter h s1.heap.objs.size (lo + (i : Nat) * 1) (((hi - lo).toNat : Int) - (i : Nat)) 1) ⟨k.trans (Kp.of_keeps (tk := s1.toks) k.gd keep), k.dead (fresh_size _), ?_, ?_, fun x hx => ?_, fun j h st => ?_, fun j v hv => ?_⟩
  · have : ((List.range (hi - lo).toNat).map fun (i : Nat) => PV.int (lo + i)).length = (hi - lo).toNat := by simp
    rw [this]
    exact { sub := W.sub, frame := W.frame, item := fun i s Q E hi st hq => W.item i s Q E hi st fun v h' tk hP => hq v h' tk ⟨hi, hP⟩, done := W.done, self := W.self }
  · show IsRangeIter _ _ _ _ _
    have e1 : (lo + ((0 : Nat) : Int) * 1) = lo := by simp
    have e2 : (((hi - lo).toNat : Int) - ((0 : Nat) : Int)) = ((hi - lo).toNat : Int) := by simp
    rw [e1, e2]
    exact Heap.get?_push_size _ rfl
  · rcases List.mem_cons.mp hx with rfl | hx
    · refine ⟨size_notTB k.gd, fun ho => ?_, _, Heap.get?_push_size _ rfl⟩
      exact MdOk.ofF F (fp := [s1.heap.objs.size]) (fun y hy => by cases hy with | head => exact k.dead (fresh_size _) | tail _ h => cases h) .N _ (.head _) ho
    · cases hx
  · refine ⟨_, _, st, ?_, rfl, fun x t h => ?_⟩
    · intro h; cases h
    · simp [rawInt] at h
  · obtain ⟨hj, t, rfl⟩ := hv
    refine ⟨.int (lo + j), [], range_items hj, ?_, Clean.nil⟩
    rw [Int.mul_one]
    exact .int _ t

theorem It.range1 {e : Expr} {np pos : Pos} {n : Int} {q1 : Md} (g : GName S sc "range" (.type "range")) (h : Ev S sc ns b d q1 ρ e (.int n)) (h1 : -(2 ^ 62) ≤ n) (h2 : n < 2 ^ 62)
    (he : ∀ env, starEach [e] env = [(false, eval e env)] := by intro _; rfl) :
    It S sc ns b d ρ (.Call (.Name "range" np) [e] [] pos) ((List.range n.toNat).map fun (i : Nat) => PV.int i) := by
  intro A base env s rt Q R F hQ
  have ht : backTo pos (starEach [e] env) = [(false, eval e env)] := by rw [he env]; rfl
  refine wpAny_Call_NameR (g.eval F ?_ (by decide))
  refine callWith_ok (.type _) (Evs.cons h Evs.nil (fun env => he env)) R F (he env) (by rw [ht]; rfl) fun vs s1 fp k r => ?_
  obtain ⟨v, rfl, r'⟩ := r.one
  cases r'
  refine call_range_1 ?_
  refine iter_range R F (k.trans (Kp.of_keeps k.gd (Heap.push_keeps _))) (IsRange.new ..) (by decide) (by decide) h1 h2 ?_
  have e : ((List.range (n - 0).toNat).map fun (i : Nat) => PV.int (0 + i)) = (List.range n.toNat).map fun (i : Nat) => PV.int i := by simp
  rw [e]
  exact hQ
theorem It.range2 {e1 e2 : Expr} {np pos : Pos} {lo hi : Int} {q1 : Md} (g : GName S sc "range" (.type "range")) (h : Ev S sc ns b d q1 ρ e1 (.int lo)) (h' : Ev S sc ns b d q1 ρ e2 (.int hi))
    (h1 : -(2 ^ 62) ≤ lo) (h2 : lo < 2 ^ 62) (h3 : -(2 ^ 62) ≤ hi) (h4 : hi < 2 ^ 62)
    (he : ∀ env, starEach [e1, e2] env = [(false, eval e1 env), (false, eval e2 env)] := by intro _; rfl) (he2 : ∀ env, starEach [e2] env = [(false, eval e2 env)] := by intro _; rfl) :
    It S sc ns b d ρ (.Call (.Name "range" np) [e1, e2] [] pos) ((List.range (hi - lo).toNat).map fun (i : Nat) => PV.int (lo + i)) := by
  intro A base env s rt Q R F hQ
  have ht : backTo pos (starEach [e1, e2] env) = [(false, eval e1 env), (false, eval e2 env)] := by rw [he env]; rfl
  refine wpAny_Call_NameR (g.eval F ?_ (by decide))
  refine callWith_ok (.type _) (Evs.cons h (Evs.cons h' Evs.nil (fun env => he2 env)) (fun env => by rw [he env, he2 env])) R F (by rw [he env, he2 env]) (by rw [ht]; rfl) fun vs s1 fp k r => ?_
  obtain ⟨v1, v2, f1, f2, rfl, rfl, r1, r2⟩ := r.two
  (first | obtain ⟨_, rfl, rfl⟩ := r1.inv | cases r1); (first | obtain ⟨_, rfl, rfl⟩ := r2.inv | cases r2)
  refine call_range_2 ?_
  exact iter_range R F (k.trans (Kp.of_keeps k.gd (Heap.push_keeps _))) (IsRange.new ..) h1 h2 h3 h4 hQ

theorem It.dict {e : Expr} {ks : List Str} {ps : List PV} (h : Ev S sc ns b d .N ρ e (.dict ks ps)) : It S sc ns b d ρ e (ks.map .str) := by
  intro A base env s rt Q R F hQ
  refine h A base env s rt _ R F fun v s1 fp k r m => ?_
  cases r with
  | @dict a _ vs _ fpl g1 g2 g3 g4 g5 =>
  obtain ⟨o, es, ep, e, ex, hd, hk, hp, hnd⟩ := id g4
  have hm : s1.heap.DictAt (strKind S.prog S.w) a (ks.zip vs) ep := ⟨o, es, e, ex, hd, hk, hp, hnd⟩
  refine wpAny_pyIter_dict g2 hm ?_
  have keep := Heap.push_keeps (h := s1.heap) { cls := .type "dict_keyiterator", data := .fields #[.ref a, .int 0 0, .int (ks.zip vs).length 0, .int ep 0] }
  have hne : a ≠ s1.heap.objs.size := fresh_ne e
  have hlen := Rps.zipLen g3 g5
  have W := Walks.dictKeys (knd := strKind S.prog S.w) (A := A) R.hd s1.heap.objs.size a hne (ks.zip vs) ep
  rw [hlen] at W
  refine hQ _ s1.heap.objs.size [s1.heap.objs.size, a] _ _ ⟨k.trans (Kp.of_keeps (tk := s1.toks) k.gd keep), k.dead (fresh_size _), by rw [List.length_map]; exact W, ?_, fun x hx => ?_, fun j h st => ?_, fun j v hv => ?_⟩
  · exact ⟨⟨_, Heap.get?_push_size _ rfl, rfl, by rw [hlen]; rfl⟩, hm.at' fun o e => keep _ o e⟩
  · rcases List.mem_cons.mp hx with rfl | hx
    · refine ⟨size_notTB k.gd, fun ho => ?_, _, Heap.get?_push_size _ rfl⟩
      exact MdOk.ofF F (fp := [s1.heap.objs.size]) (fun y hy => by cases hy with | head => exact k.dead (fresh_size _) | tail _ h => cases h) .N _ (.head _) ho
    · rcases List.mem_cons.mp hx with rfl | hx
      · exact ⟨g1, m _ (.head _), _, keep _ _ e⟩
      · cases hx
  · obtain ⟨⟨o, e1, e2, e3⟩, _⟩ := st
    exact ⟨o, _, e1, (by rw [e2]; intro h; cases h), e3, fun x t h => by simp at h⟩
  · obtain ⟨k', x, e1, e2⟩ := hv
    have hk' : ks[j]? = some k' := by
      have := List.getElem?_zip_eq_some.mp e1
      exact this.1
    have : ∃ t, v = .str k' t := by
      cases v <;> simp [PySem.strKind, Value.isStrOf] at e2
      · exact ⟨_, by rw [e2]⟩
    obtain ⟨t, rfl⟩ := this
    exact ⟨.str k', [], by rw [List.getElem?_map, hk']; rfl, .str k' t, Clean.nil⟩
end
end Mine
open PySem PySem.Calls PyProof.Rows PySem.W
set_option Elab.async false
set_option autoImplicit false
set_option linter.unusedVariables false
namespace Mine
section
variable {S : Sys} {sc : Scope} {ns : List Str} {base : Heap} {env : Env} {s s' s0 : Shared} {ρ : Ro} {rt : Nat → Addr} {b : Bool} {d : Nat} {q : Md} {p p1 p2 p' : PV} {mg mb : Str → Option Value}

theorem Rp.kinds {h : Heap} {v : Value} {fp : List Addr} (r : Rp S h v p fp) : ∀ x ∈ fp, ∀ o, h.get? x = some o → ∀ vs, o.data ≠ .fields vs := by
  refine Rp.rec (motive_1 := fun v p fp _ => ∀ x ∈ fp, ∀ o, h.get? x = some o → ∀ vs, o.data ≠ .fields vs) (motive_2 := fun vs ps fp _ => ∀ x ∈ fp, ∀ o, h.get? x = some o → ∀ vs, o.data ≠ .fields vs) ?_ ?_ ?_ ?_ ?_ ?_ ?_ ?_ ?_ r
  · intro i t x hx; cases hx
  · intro y x hx; cases hx
  · intro x hx; cases hx
  · intro y t x hx; cases hx
  · intro a vs ps fp h1 h2 _ ih x hx o e ws hd
    rcases List.mem_cons.mp hx with rfl | hx
    · obtain ⟨n, e'⟩ := h2; rw [e] at e'; cases e'; cases hd
    · exact ih x hx o e ws hd
  · intro a vs ps fp h1 h2 _ ih x hx o e ws hd
    rcases List.mem_cons.mp hx with rfl | hx
    · obtain ⟨o', e', _, n, e2⟩ := h2; rw [e] at e'; cases e'; rw [hd] at e2; cases e2
    · exact ih x hx o e ws hd
  · intro a ks vs ps fp h1 _ _ h2 _ ih x hx o e ws hd
    rcases List.mem_cons.mp hx with rfl | hx
    · obtain ⟨o', es, ep, e', _, e2, _⟩ := h2; rw [e] at e'; cases e'; rw [hd] at e2; cases e2
    · exact ih x hx o e ws hd
  · intro x hx; cases hx
  · intro v vs p ps f1 f2 _ _ i1 i2 x hx
    rcases List.mem_append.mp hx with hx | hx
    · exact i1 x hx
    · exact i2 x hx

theorem Fm.iter {h h' : Heap} {I : Addr} (F : Fm S sc ns base env h ρ rt) (it : Itr h I) (hb : base.get? I = none) (k : ∀ x o, x ≠ I → h.get? x = some o → h'.get? x = some o) (hI : ∀ o, base.get? I = some o → ∃ o', h'.get? I = some o') : Fm S sc ns base env h' ρ rt := by
  obtain ⟨oI, vsI, e1, e2, e3, e4⟩ := it
  have ne : ∀ {x o}, h.get? x = some o → (∀ vs, o.data ≠ .fields vs) → x ≠ I := fun e hd he => by
    subst he; rw [e1] at e; cases e; exact hd _ e3
  have k' : ∀ {x o}, h.get? x = some o → (∀ vs, o.data ≠ .fields vs) → h'.get? x = some o := fun e hd => k _ _ (ne e hd) e
  have g : Gd S h' := by
    refine ⟨fun x o hx e => k x o (fun he => ?_) (F.gd.top x o hx e), fun t ht => ?_⟩
    · subst he; obtain ⟨o', e'⟩ := F.top _ o e; rw [hb] at e'; cases e'
    · obtain ⟨ps, e, r⟩ := F.gd.tab t ht
      refine ⟨ps, k _ _ (fun he => ?_) e, r.imp id fun ⟨c', q1, c, o, vs, t', q2, q3, q4, q5⟩ => ⟨c', q1, c, o, vs, t', q2, k _ _ (fun he => ?_) q3, q4, q5⟩⟩
      · subst he; rw [e] at e1; cases e1; exact e2 rfl
      · subst he; rw [q3] at e1; cases e1; rw [q4] at e3; cases e3; exact e4 _ _ q5
  have rdOk : ∀ {y w}, Reads env h y w → Reads env h' y w := fun rd => by
    rcases rd with ⟨r1, m', ⟨o, es, ep, z1, z2, z3⟩, r3⟩ | ⟨r1, c, r2, o, r3, r4⟩
    · exact .inl ⟨r1, m', ⟨o, es, ep, k' z1 (fun vs h => by rw [z2] at h; cases h), z2, z3⟩, r3⟩
    · exact .inr ⟨r1, c, r2, o, k' r3 (fun vs h => by rw [r4] at h; cases h), r4⟩
  refine ⟨g, F.kind, F.kinds, F.glob, F.blt, F.top, fun x o e => ?_, F.nsB, ?_, fun c hc => ?_, F.cellInj, F.cellsAll, F.len, fun i x p kk ex e => ?_⟩
  · obtain ⟨o', e'⟩ := F.alive x o e
    by_cases hx : x = I
    · subst hx; exact hI o e
    · exact ⟨o', k x o' hx e'⟩
  · obtain ⟨m, o, es, ep, z1, z2, z3⟩ := F.ns1
    exact ⟨m, o, es, ep, k' z1 (fun vs h => by rw [z2] at h; cases h), z2, z3⟩
  · obtain ⟨c1, v, o, z1, z2⟩ := F.cellB c hc
    exact ⟨c1, v, o, k' z1 (fun vs h => by rw [z2] at h; cases h), z2⟩
  · obtain ⟨v, fp, V⟩ := F.vars i x p kk ex e
    refine ⟨v, fp, rdOk V.rd, V.rp.mono fun y hy o e => k' e (V.rp.kinds y hy o e), V.loc, fun hk => ?_, V.sep⟩
    obtain ⟨o1, o2, ⟨ob, o3, o4, o5⟩, o6⟩ := V.own hk
    exact ⟨o1, o2, ⟨ob, k' o3 o5, o4, o5⟩, o6⟩

noncomputable def LoopPost (Φ : Out → Prop) (J : Nat → Ro) (j : Nat) : Out → Prop
  | .next ρ' => Le (J j) ρ'
  | .cont ρ' => Le (J j) ρ'
  | .brk ρ' => Φ (.next ρ')
  | .ret p => Φ (.ret p)

noncomputable def ItK (κ : Heap → Addr → Prop) (S : Sys) (sc : Scope) (ns : List Str) (b : Bool) (d : Nat) (ρ : Ro) (e : Expr) (items : List PV) : Prop :=
  ∀ (A : Around) (base : Heap) (env : Env) (s : Shared) (rt : Nat → Addr) (Q : Value → Shared → Prop), Room d A → Fm S sc ns base env s.heap ρ rt →
    (∀ s2 I fp P St, Iter S b A env ρ rt s items s2 I fp P St → (∀ j h, St j h → κ h I) → Q (.ref I) s2) → wpAny (model S.prog S.w) A (eval e env) (fun x s₁ => wpAny (model S.prog S.w) A (pyIter x) Q No s₁) No s

theorem S1.forG {target : Expr} {pos : Pos} {iter : Expr} {body orelse : List Stmt} {items : List PV} {Φ : Out → Prop} {κ : Heap → Addr → Prop} (upd : Ro → PV → Ro) (hit : ItK κ S sc ns b d ρ iter items) (J : Nat → Ro) (h0 : Le (J 0) ρ)
    (asg : ∀ (A : Around) (base : Heap) (env : Env) (s : Shared) (rt : Nat → Addr) (ρ' : Ro) (I : Addr) (v : Value) (p : PV) (f : List Addr) (Q : Unit → Shared → Prop), Room d A → Fm S sc ns base env s.heap ρ' rt → κ s.heap I → p ∈ items → Rp S s.heap v p f → Clean env ρ' rt f →
      (∀ s', NextIs S sc ns b base env ρ' rt s s' (upd ρ' p) → Q () s') → wpAny (model S.prog S.w) A (letOwnedTupleGo target (.ref I) v) (fun _ s1 => wpAny (model S.prog S.w) A (PySem.assign target env v) Q No s1) No s)
    (step : ∀ j p, items[j]? = some p → Sx S sc ns b d (upd (J j) p) body (LoopPost Φ J (j + 1)))
    (hend : Sx S sc ns b d (J items.length) orelse Φ)
    (hs : ∀ env x, foldedSetIterable iter env x = pure x := by intro _ _; rfl) :
    S1 S sc ns b d ρ (.For target iter body orelse pos) Φ := by
  intro A base env s rt Q R F hQ
  refine wpAny_For (hit A base env s rt _ R F fun s2 I fp P St it hκ => ?_) (hs env)
  have F2 := F.kp it.kp
  have bI : base.get? I = none := by
    cases e : base.get? I with
    | none => rfl
    | some o => obtain ⟨o', e'⟩ := F.alive I o e; rw [it.fresh] at e'; cases e'
  let Inv : Nat → Shared → Prop := fun j s' => ∃ rt', (∃ h tk, s' = { s2 with heap := h, toks := tk }) ∧ KeepB S b (fun x => ownOf env ρ rt x ∨ x = I) s2.heap s'.heap ∧ (∀ x o, x ≠ I → s2.heap.get? x = some o → ∃ o', s'.heap.get? x = some o') ∧
    RootOk ρ rt s2.heap (J j) rt' ∧ Fm S sc ns base env s'.heap (J j) rt' ∧ St j s'.heap
  -- from s' (an invariant state) an outcome relative to s'' (later) is one relative to s
  have lift : ∀ {j : Nat} {s' : Shared} {rt' : Nat → Addr} {s'' : Shared}, (∃ h tk, s' = { s2 with heap := h, toks := tk }) → KeepB S b (fun x => ownOf env ρ rt x ∨ x = I) s2.heap s'.heap → (∀ x o, x ≠ I → s2.heap.get? x = some o → ∃ o', s'.heap.get? x = some o') →
      RootOk ρ rt s2.heap (J j) rt' → Stp S b env (J j) rt' s' s'' → Stp S b env ρ rt s s'' := by
    intro j s' rt' s'' hsm hkp hal ro st
    obtain ⟨hh, tk, e, kk, _⟩ := it.kp
    have sI : ∀ x o, s.heap.get? x = some o → x ≠ I := fun x o e he => by rw [he, it.fresh] at e; cases e
    refine ⟨?_, fun z o hz hb e => ?_, fun z o e => ?_⟩
    · obtain ⟨h1, t1, e1⟩ := hsm
      obtain ⟨h2, t2, e2⟩ := st.same
      exact ⟨h2, t2, by rw [e2, e1, e]⟩
    · have e2 : s2.heap.get? z = some o := by rw [‹s2 = _›]; exact kk z o id hb e
      refine st.keep z o (fun ho => hz (ownOf.back ro e2 ho)) hb (hkp z o (fun ho => ho.elim hz (sI z o e)) hb e2)
    · obtain ⟨o2, e2⟩ := TabOk.alive it.kp.gd it.kp.keep z o e
      obtain ⟨o3, e3⟩ := hal z o2 (sI z o e) e2
      exact st.alive z o3 e3
  have rootBack : ∀ {ρ' : Ro} {rt' : Nat → Addr}, RootOk ρ rt s2.heap ρ' rt' → RootOk ρ rt s.heap ρ' rt' := fun ro i p k e hk => (ro i p k e hk).imp id fun e' => by
    cases q : s.heap.get? _ with
    | none => rfl
    | some o => obtain ⟨o', e''⟩ := TabOk.alive it.kp.gd it.kp.keep _ o q; rw [e'] at e''; cases e''
  refine codeAny_forLoop_any (fun n s' => ∃ j, j ≤ items.length ∧ n = items.length + 1 - j ∧ Inv j s') ?_ (items.length + 1)
    ⟨0, Nat.zero_le _, rfl, rt, ⟨s2.heap, s2.toks, rfl⟩, fun x o _ _ e => e, fun x o _ e => ⟨o, e⟩, .forget h0, F2.forget h0, it.st⟩
  rintro n s' ⟨j, hj, rfl, rt', hsm, hkp, hal, ro, Fj, hst⟩
  have itr := it.itr j _ hst
  by_cases hlt : j < items.length
  · -- a turn
    refine wpAny_mono (E := No) (it.W.item j s' _ _ hlt hst fun v h1 tk1 hP hst1 hk1 => ?_) (fun _ _ h => h) fun _ _ h => h.elim
    have Fj1 : Fm S sc ns base env h1 (J j) rt' := Fj.iter itr bI (fun y o hy e => hk1 y o (fun hm => by cases hm with | head => exact hy rfl | tail _ h => cases h) e) fun o e => by rw [bI] at e; cases e
    obtain ⟨pj, f, e1, e2, e3⟩ := it.item j v hP
    -- the item stands as it stood
    have fOk : ∀ y ∈ f, h1.get? y = s2.heap.get? y := fun y hy => by
      obtain ⟨hTB, o, eo⟩ := e2.lives y hy
      have c := e3 y hy
      have nown : ¬ ownOf env ρ rt y := fun ho => by
        rcases ho with ho | ho | ⟨i, p, e, hr⟩
        · exact c.1 ho
        · exact c.2.1 ho
        · exact c.2.2 i p .mut e (by intro h; cases h) hr
      have nI : y ≠ I := fun he => by
        obtain ⟨o', vs', z1, z2, z3, z4⟩ := it.itr 0 _ it.st
        rw [he, z1] at eo; cases eo
        exact e2.kinds y hy _ (he ▸ z1) _ z3
      have := hkp y o (fun h => h.elim nown nI) (.inr hTB) eo
      rw [hk1 y o (fun hm => by cases hm with | head => exact nI rfl | tail _ h => cases h) this, eo]
    have r1 : Rp S h1 v pj f := e2.mono fun y hy o e => (fOk y hy).trans e
    have k0 : Kp S b { s' with heap := h1, toks := tk1 } { s' with heap := h1, toks := tk1 } := Kp.refl Fj1.gd
    have cl : Clean env (J j) rt' f := fun y hm => ⟨(e3 y hm).1, (e3 y hm).2.1, fun i q k' e hk' he => by
      rcases ro i q k' e hk' with ⟨z1, p', z2⟩ | z1
      · exact (e3 _ hm).2.2 i p' k' z2 hk' (z1.symm.trans he)
      · obtain ⟨_, o, eo⟩ := e2.lives _ hm; rw [he] at z1; rw [z1] at eo; cases eo⟩
    refine wpAny_mono (E := No) (asg A base env { s' with heap := h1, toks := tk1 } rt' (J j) I v pj f (fun _ s3 => wpAny (model S.prog S.w) A (execs body env) (fun f s₃ => match f with
          | .next | .cont => ∃ m, m < items.length + 1 - j ∧ ∃ j, j ≤ items.length ∧ m = items.length + 1 - j ∧ Inv j s₃
          | .brk => Q .next s₃
          | .ret v => Q (.ret v) s₃) No s3) R Fj1 (hκ (j + 1) _ hst1) (List.mem_of_getElem? e1) r1 cl ?_) (fun _ s3' h3' => wpAny_mono h3' (fun _ s3 h3 => ?_) fun _ _ h => h.elim) fun _ _ h => h.elim
    · rintro s3 ⟨st3, rt3, ro3, F3⟩
      -- the iterator and its list are kept by the turn
      have fpKeep : ∀ {s4 s5 : Shared} {ρ4 : Ro} {rt4 : Nat → Addr}, RootOk ρ rt s2.heap ρ4 rt4 → Stp S b env ρ4 rt4 s4 s5 → ∀ y ∈ fp, ∀ o, s4.heap.get? y = some o → s5.heap.get? y = some o := fun ro4 st4 y hy o e => by
        obtain ⟨z1, z2, o', z3⟩ := it.fpOk y hy
        exact st4.keep y o (fun ho => z2 (ownOf.back ro4 z3 ho)) (.inr z1) e
      -- roots of the later frames relative to s2
      have st13 : ∀ {s5 : Shared}, Stp S b env (J j) rt' { s' with heap := h1, toks := tk1 } s5 → ∀ y o, y ≠ I → s2.heap.get? y = some o → ∃ o', s5.heap.get? y = some o' := fun st y o hy e => by
        obtain ⟨o', e'⟩ := hal y o hy e
        exact st.alive y o' (hk1 y o' (fun hm => by cases hm with | head => exact hy rfl | tail _ h => cases h) e')
      have rootS2 : ∀ {s4 : Shared} {ρ4 : Ro} {rt4 : Nat → Addr}, (∀ y o, y ≠ I → s2.heap.get? y = some o → ∃ o', s4.heap.get? y = some o') → (∃ o, s4.heap.get? I = some o) → ∀ {ρ5 : Ro} {rt5 : Nat → Addr}, RootOk ρ rt s2.heap ρ4 rt4 → RootOk ρ4 rt4 s4.heap ρ5 rt5 → RootOk ρ rt s2.heap ρ5 rt5 := fun al4 aI ρ5 rt5 r4 r5 i p k e hk' => by
        rcases r5 i p k e hk' with ⟨z1, p', z2⟩ | z1
        · rcases r4 i p' k z2 hk' with ⟨z3, p'', z4⟩ | z3
          · exact .inl ⟨z1.trans z3, p'', z4⟩
          · exact .inr (by rw [z1]; exact z3)
        · refine .inr ?_
          cases q : s2.heap.get? (rt5 i) with
          | none => rfl
          | some o =>
            by_cases hI : rt5 i = I
            · obtain ⟨o', e'⟩ := aI; rw [← hI, z1] at e'; cases e'
            · obtain ⟨o', e'⟩ := al4 _ o hI q; rw [z1] at e'; cases e'
      obtain ⟨oI, vI, zI, _⟩ := it.itr (j + 1) _ hst1
      have al1 : ∀ y o, y ≠ I → s2.heap.get? y = some o → ∃ o', h1.get? y = some o' := fun y o hy e => by
        obtain ⟨o', e'⟩ := hal y o hy e
        exact ⟨o', hk1 y o' (fun hm => by cases hm with | head => exact hy rfl | tail _ h => cases h) e'⟩
      have kp1 : KeepB S b (fun x => ownOf env ρ rt x ∨ x = I) s2.heap h1 := fun y o hy hb e => hk1 y o (fun hm => by cases hm with | head => exact hy (.inr rfl) | tail _ h => cases h) (hkp y o hy hb e)
      have ro3' : RootOk ρ rt s2.heap (upd (J j) pj) rt3 := rootS2 (s4 := { s' with heap := h1, toks := tk1 }) al1 ⟨oI, zI⟩ ro ro3
      have hst3 : St (j + 1) s3.heap := it.W.frame _ _ _ hst1 (fpKeep ro st3)
      refine step j pj e1 A base env s3 rt3 _ R F3 fun o f5 s5 ho oi => ?_
      have sm1 : ∃ h tk, ({ s' with heap := h1, toks := tk1 } : Shared) = { s2 with heap := h, toks := tk } := by obtain ⟨h, tk, rfl⟩ := hsm; exact ⟨h1, tk1, rfl⟩
      -- to go on
      have goOn : ∀ {ρ5 : Ro}, NextIs S sc ns b base env (upd (J j) pj) rt3 s3 s5 ρ5 → Le (J (j + 1)) ρ5 → ∃ m, m < items.length + 1 - j ∧ ∃ j, j ≤ items.length ∧ m = items.length + 1 - j ∧ Inv j s5 := by
        rintro ρ5 ⟨st5, rt5, ro5, F5⟩ le
        have st15 := st3.trans ro3 st5
        have ro15 := ro3.trans st3 ro5
        refine ⟨items.length + 1 - (j + 1), by (first | lia | omega), j + 1, hlt, rfl, rt5, ?_, fun y o hy hb e => ?_, st13 st15, ?_, F5.forget le, it.W.frame _ _ _ hst3 (fpKeep ro3' st5)⟩
        · obtain ⟨h, tk, e⟩ := sm1
          obtain ⟨h2, t2, e2⟩ := st15.same
          exact ⟨h2, t2, by rw [e2, e]⟩
        · exact st15.keep y o (fun ho' => hy (.inl (ownOf.back ro e ho'))) hb (kp1 y o hy hb e)
        · have := rootS2 (s4 := { s' with heap := h1, toks := tk1 }) al1 ⟨oI, zI⟩ ro ro15
          exact fun i p k e hk' => this i p k (le.2 i _ e) hk'
      have outS : ∀ {f6 : Flow} {o6 : Out}, OutIs S sc ns b base env (upd (J j) pj) rt3 s3 f6 s5 o6 → OutIs S sc ns b base env ρ rt s f6 s5 o6 := by
        intro f6 o6 oi6
        have oi7 := OutIs.trans st3 ro3 oi6
        have up : ∀ {s6 : Shared}, Stp S b env (J j) rt' { s' with heap := h1, toks := tk1 } s6 → Stp S b env ρ rt s s6 := fun st => lift sm1 kp1 al1 ro st
        have upR : ∀ {ρ6 : Ro} {rt6 : Nat → Addr}, RootOk (J j) rt' h1 ρ6 rt6 → RootOk ρ rt s.heap ρ6 rt6 := fun r => rootBack (rootS2 (s4 := { s' with heap := h1, toks := tk1 }) al1 ⟨oI, zI⟩ ro r)
        cases o6 with
        | next ρ6 => obtain ⟨z1, z2, rt6, z3, z4⟩ := oi7; exact ⟨z1, up z2, rt6, upR z3, z4⟩
        | brk ρ6 => obtain ⟨z1, z2, rt6, z3, z4⟩ := oi7; exact ⟨z1, up z2, rt6, upR z3, z4⟩
        | cont ρ6 => obtain ⟨z1, z2, rt6, z3, z4⟩ := oi7; exact ⟨z1, up z2, rt6, upR z3, z4⟩
        | ret p => obtain ⟨v, f', z1, z2, z3⟩ := oi7; exact ⟨v, f', z1, up z2, z3⟩
      cases o with
      | next ρ5 => obtain ⟨rfl, n5⟩ := oi; exact goOn n5 ho
      | cont ρ5 => obtain ⟨rfl, n5⟩ := oi; exact goOn n5 ho
      | brk ρ5 =>
        obtain ⟨rfl, n5⟩ := oi
        exact hQ (.next ρ5) .next s5 ho (outS (f6 := .next) (o6 := .next ρ5) ⟨rfl, n5⟩)
      | ret p5 =>
        obtain ⟨v5, f5', rfl, n5⟩ := oi
        exact hQ (.ret p5) (.ret v5) s5 ho (outS (f6 := .ret v5) (o6 := .ret p5) ⟨v5, f5', rfl, n5⟩)
    · exact wpAny_mono h3 (fun f s4 h4 => by cases f <;> exact h4) fun _ _ h => h.elim
  · -- the end
    have hjn : j = items.length := by (first | lia | omega)
    subst hjn
    refine wpAny_mono (E := No) (it.W.done s' _ _ hst fun h1 tk1 hk1 => ?_) (fun _ _ h => h) fun _ _ h => h.elim
    have Fj1 : Fm S sc ns base env h1 (J items.length) rt' := Fj.iter itr bI (fun y o hy e => hk1 y o (fun hm => by cases hm with | head => exact hy rfl | tail _ h => cases h) e) fun o e => by rw [bI] at e; cases e
    have al1 : ∀ y o, y ≠ I → s2.heap.get? y = some o → ∃ o', h1.get? y = some o' := fun y o hy e => by
      obtain ⟨o', e'⟩ := hal y o hy e
      exact ⟨o', hk1 y o' (fun hm => by cases hm with | head => exact hy rfl | tail _ h => cases h) e'⟩
    have kp1 : KeepB S b (fun x => ownOf env ρ rt x ∨ x = I) s2.heap h1 := fun y o hy hb e => hk1 y o (fun hm => by cases hm with | head => exact hy (.inr rfl) | tail _ h => cases h) (hkp y o hy hb e)
    have sm1 : ∃ h tk, ({ s' with heap := h1, toks := tk1 } : Shared) = { s2 with heap := h, toks := tk } := by obtain ⟨h, tk, rfl⟩ := hsm; exact ⟨h1, tk1, rfl⟩
    have st0 : Stp S b env ρ rt s { s' with heap := h1, toks := tk1 } := lift sm1 kp1 al1 ro (.ofKp (Kp.refl Fj1.gd))
    refine wpAny_mono (E := No) (hend A base env _ rt' Q R Fj1 fun o f s5 ho oi => hQ o f s5 ho (OutIs.trans st0 (rootBack ro) oi)) (fun _ _ h => h) fun _ _ h => h.elim

theorem It.toK {iter : Expr} {items : List PV} (hit : It S sc ns b d ρ iter items) : ItK (fun _ _ => True) S sc ns b d ρ iter items := fun A base env s rt Q R F hQ => hit A base env s rt Q R F fun s2 I fp P St it => hQ s2 I fp P St it fun _ _ _ => trivial
theorem S1.for {x : Str} {px pos : Pos} {iter : Expr} {body orelse : List Stmt} {items : List PV} {Φ : Out → Prop} (t : Nat) (hn : ns[t]? = some x) (hit : It S sc ns b d ρ iter items) (J : Nat → Ro) (h0 : Le (J 0) ρ)
    (step : ∀ j p, items[j]? = some p → Sx S sc ns b d ((J j).set t (some (p, .imm))) body (LoopPost Φ J (j + 1)))
    (hend : Sx S sc ns b d (J items.length) orelse Φ) (nd : ns.Nodup) (hk : locCell sc x = true)
    (hs : ∀ env x, foldedSetIterable iter env x = pure x := by intro _ _; rfl) :
    S1 S sc ns b d ρ (.For (.Name x px) iter body orelse pos) Φ := by
  refine S1.forG (fun ρ p => ρ.set t (some (p, .imm))) hit.toK J h0 (fun A base env s rt ρ' I v p f Q R F _ _ r cl hQ => ?_) step hend hs
  show wpAny _ _ (pure ()) _ _ _
  refine wpAny_pure (wpAny_assign_Name (store_ok F (Kp.refl (b := b) F.gd) nd hn (locCell_or hk) (rt' := rt) (k := .imm) (p := p) (v := v) (fp := f) ⟨r, fun _ _ => rfl, fun y hy => ⟨(cl y hy).1, (cl y hy).2.1⟩, fun i q k' e hk' _ hm => (cl _ hm).2.2 i q k' e hk' rfl, fun hh => absurd rfl hh⟩ hQ))
end
end Mine
open PySem PySem.Calls PyProof.Rows PySem.W
set_option Elab.async false
set_option autoImplicit false
set_option linter.unusedVariables false
namespace Mine
section
variable {S : Sys} {sc : Scope} {ns : List Str} {base : Heap} {env : Env} {s s' s0 : Shared} {ρ : Ro} {rt : Nat → Addr} {b : Bool} {d : Nat} {q : Md} {p p1 p2 p' : PV} {mg mb : Str → Option Value}

/-! closures of comprehensions -/
noncomputable def clOf (cells : List (Str × Addr)) : List (Str × NameKind) → List (Str × Addr) → List (Str × Addr)
  | [], acc => acc
  | (n, k) :: r, acc => if k = .free then clOf cells r ((n, (cells.lookup n).getD 0) :: acc) else clOf cells r acc

theorem closureFor_is {scope : Scope} {env : Env} (h : ∀ n k, (n, k) ∈ scope.names → k = NameKind.free → (env.cells.lookup n).isSome = true) : closureFor scope env = pure (clOf env.cells scope.names []) := by
  have gen : ∀ (l : List (Str × NameKind)) (acc : List (Str × Addr)), (∀ n k, (n, k) ∈ l → k = NameKind.free → (env.cells.lookup n).isSome = true) →
      (forIn l acc fun (x : Str × NameKind) (r : List (Str × Addr)) => (if x.2 == NameKind.free then do let a ← cellOf env x.1; pure (ForInStep.yield ((x.1, a) :: r)) else pure (ForInStep.yield r) : Sem (ForInStep (List (Str × Addr))))) = pure (clOf env.cells l acc) := by
    intro l
    induction l with
    | nil => intro acc _; rfl
    | cons x r ih =>
      obtain ⟨n, k⟩ := x
      intro acc hl
      rw [List.forIn_cons]
      by_cases hk : k = .free
      · subst hk
        have hs := hl n .free (.head _) rfl
        cases hc : env.cells.lookup n with
        | none => rw [hc] at hs; cases hs
        | some c =>
          have e1 : cellOf env n = pure c := by unfold cellOf; rw [hc]
          have e2 : clOf env.cells ((n, NameKind.free) :: r) acc = clOf env.cells r ((n, c) :: acc) := by simp [clOf, hc]
          rw [e2]
          simp only [beq_self_eq_true, if_true, e1, pure_bind]
          exact ih _ fun n k hm => hl n k (.tail _ hm)
      · have hb : (k == NameKind.free) = false := by simpa using hk
        have e2 : clOf env.cells ((n, k) :: r) acc = clOf env.cells r acc := by simp [clOf, hk]
        rw [e2]
        simp only [hb, Bool.false_eq_true, if_false, pure_bind]
        exact ih _ fun n k hm => hl n k (.tail _ hm)
  have := gen scope.names [] h
  unfold closureFor
  simp only [bind_pure]
  exact this

theorem clOf_sound (cells : List (Str × Addr)) : ∀ (l : List (Str × NameKind)) (acc : List (Str × Addr)), (∀ n k, (n, k) ∈ l → k = NameKind.free → (cells.lookup n).isSome = true) → (∀ n c, acc.lookup n = some c → cells.lookup n = some c) →
    ∀ n c, (clOf cells l acc).lookup n = some c → cells.lookup n = some c
  | [], acc, _, ha, n, c, e => ha n c e
  | (m, k) :: r, acc, hl, ha, n, c, e => by
    by_cases hk : k = .free
    · subst hk
      have e2 : clOf cells ((m, NameKind.free) :: r) acc = clOf cells r ((m, (cells.lookup m).getD 0) :: acc) := by simp [clOf]
      rw [e2] at e
      refine clOf_sound cells r _ (fun n k hm => hl n k (.tail _ hm)) (fun n' c' e' => ?_) n c e
      rw [List.lookup_cons] at e'
      cases hb : n' == m with
      | true =>
        rw [hb] at e'
        have := eq_of_beq hb
        subst this
        have hs := hl n' .free (.head _) rfl
        cases hc : cells.lookup n' with
        | none => rw [hc] at hs; cases hs
        | some c0 => rw [hc] at e'; cases e'; rfl
      | false => rw [hb] at e'; exact ha n' c' e'
    · have e2 : clOf cells ((m, k) :: r) acc = clOf cells r acc := by simp [clOf, hk]
      rw [e2] at e
      exact clOf_sound cells r _ (fun n k hm => hl n k (.tail _ hm)) ha n c e
theorem clOf_keeps (cells : List (Str × Addr)) {n : Str} : ∀ (l : List (Str × NameKind)) (acc : List (Str × Addr)), (acc.lookup n).isSome = true → ((clOf cells l acc).lookup n).isSome = true
  | [], acc, h => h
  | (m, k) :: r, acc, h => by
    by_cases hk : k = .free
    · subst hk
      have e2 : clOf cells ((m, NameKind.free) :: r) acc = clOf cells r ((m, (cells.lookup m).getD 0) :: acc) := by simp [clOf]
      rw [e2]
      refine clOf_keeps cells r _ ?_
      rw [List.lookup_cons]
      cases hb : n == m <;> simp_all
    · have e2 : clOf cells ((m, k) :: r) acc = clOf cells r acc := by simp [clOf, hk]
      rw [e2]; exact clOf_keeps cells r _ h
theorem clOf_has (cells : List (Str × Addr)) {n : Str} : ∀ (l : List (Str × NameKind)) (acc : List (Str × Addr)), (n, NameKind.free) ∈ l → ((clOf cells l acc).lookup n).isSome = true
  | (m, k) :: r, acc, h => by
    rcases List.mem_cons.mp h with h1 | h1
    · cases h1
      have e2 : clOf cells ((n, NameKind.free) :: r) acc = clOf cells r ((n, (cells.lookup n).getD 0) :: acc) := by simp [clOf]
      rw [e2]
      exact clOf_keeps cells r _ (by simp [List.lookup_cons])
    · by_cases hk : k = .free
      · subst hk
        have e2 : clOf cells ((m, NameKind.free) :: r) acc = clOf cells r ((m, (cells.lookup m).getD 0) :: acc) := by simp [clOf]
        rw [e2]; exact clOf_has cells r _ h1
      · have e2 : clOf cells ((m, k) :: r) acc = clOf cells r acc := by simp [clOf, hk]
        rw [e2]; exact clOf_has cells r _ h1

theorem relabel_lookup {env : Env} {n : Str} : ∀ (l : List (Str × NameKind)),
    (l.map fun (n, k) => if (k == NameKind.free && env.scope.kind == .function && env.kindOf n == some .cell) then (n, NameKind.cell) else (n, k)).lookup n =
      match l.lookup n with
      | some k => some (if (k == NameKind.free && env.scope.kind == .function && env.kindOf n == some .cell) then NameKind.cell else k)
      | none => none
  | [] => rfl
  | (m, k) :: r => by
    rw [List.map_cons]
    show List.lookup n ((if (k == NameKind.free && env.scope.kind == .function && env.kindOf m == some .cell) = true then (m, NameKind.cell) else (m, k)) :: _) = _
    rw [List.lookup_cons (as := r)]
    cases hb : n == m with
    | true =>
      have := eq_of_beq hb
      subst this
      by_cases hc : (k == NameKind.free && env.scope.kind == .function && env.kindOf n == some .cell) = true
      · rw [if_pos hc, List.lookup_cons]; simp [hc]
      · rw [if_neg hc, List.lookup_cons]; simp [hc]
    | false =>
      by_cases hc : (k == NameKind.free && env.scope.kind == .function && env.kindOf m == some .cell) = true
      · rw [if_pos hc, List.lookup_cons, hb]; exact relabel_lookup r
      · rw [if_neg hc, List.lookup_cons, hb]; exact relabel_lookup r

structure CompOk (sc : Scope) (ns : List Str) (scope : Scope) (x : Str) (caps : List Nat) : Prop where
  nd : caps.Nodup
  kind : scope.kind = .function
  cell : (scope.names.all fun y => y.2 != .cell) = true
  names : (scope.names.all fun y => y.2 != .local || scope.names.lookup y.1 == some .local) = true
  loc : scope.names.lookup x = some .local
  free : (scope.names.all fun y => y.2 != .free || sc.names.lookup y.1 == some .cell) = true
  caps : (caps.all fun i => match ns[i]? with | some y => scope.names.lookup y == some .free | none => false) = true

noncomputable def capNs (ns : List Str) (x : Str) (caps : List Nat) : List Str := x :: caps.map fun i => (ns[i]?).getD x
noncomputable def capRo (ρ : Ro) (p : PV) (caps : List Nat) : Ro := some (p, .imm) :: caps.map fun i => (ρ[i]?).getD none

theorem mem_of_lookup' {l : List (Str × NameKind)} {n : Str} {k : NameKind} (h : l.lookup n = some k) : (n, k) ∈ l := mem_of_lookup h

theorem Fm.comp {h : Heap} {scope : Scope} {x : Str} {caps : List Nat} {C : Addr} {m : Str → Option Value} {v : Value} (F : Fm S sc ns base env h ρ rt) (ok : CompOk sc ns scope x caps)
    (hCb : base.get? C = none) (hCn : h.Ns C m) (hm : m x = some v) (rv : Rp S h v p []) (hCf : ∀ i x p k, ns[i]? = some x → ρ[i]? = some (some (p, k)) → ∃ v fp, Var S base env h ρ rt i x p k v fp ∧ C ∉ fp) :
    ∃ rt', Fm S scope (capNs ns x caps) base (compEnvC scope (clOf env.cells scope.names []) C env) h (capRo ρ p caps) rt' := by
  have frees : ∀ n k, (n, k) ∈ scope.names → k = NameKind.free → sc.names.lookup n = some .cell := fun n k hm hk => by
    have := List.all_eq_true.mp ok.free (n, k) hm
    subst hk
    simpa using this
  have has : ∀ n k, (n, k) ∈ scope.names → k = NameKind.free → (env.cells.lookup n).isSome = true := fun n k hm hk => F.cellsAll n (frees n k hm hk)
  have cl1 : ∀ n c, (clOf env.cells scope.names []).lookup n = some c → env.cells.lookup n = some c := clOf_sound env.cells scope.names [] has (fun n c e => by cases e)
  have kOf : ∀ y, (compEnvC scope (clOf env.cells scope.names []) C env).kindOf y = match scope.names.lookup y with
      | some k => some (if (k == NameKind.free && env.scope.kind == .function && env.kindOf y == some .cell) then NameKind.cell else k)
      | none => none := fun y => relabel_lookup (env := env) scope.names
  have isC : ∀ c, isCellOf (compEnvC scope (clOf env.cells scope.names []) C env) c → isCellOf env c := fun c ⟨n, e⟩ => ⟨n, cl1 n c e⟩
  refine ⟨fun j => match j with | 0 => 0 | j + 1 => rt ((caps[j]?).getD 0), F.gd, ok.kind, fun y => ?_, F.glob, F.blt, F.top, F.alive, hCb, ⟨m, hCn⟩, fun c hc => F.cellB c (isC c hc), fun n n' c e e' => F.cellInj n n' c (cl1 n c e) (cl1 n' c e'), fun y hy => ?_, by simp [capNs, capRo], fun i y pi ki ey e => ?_⟩
  · rw [kOf y]
    cases hl : scope.names.lookup y with
    | none => exact .inl rfl
    | some k =>
      by_cases hc : (k == NameKind.free && env.scope.kind == .function && env.kindOf y == some .cell) = true
      · refine .inr ⟨?_, by simp [hc]⟩
        have : k = .free := by simp only [Bool.and_eq_true, beq_iff_eq] at hc; exact hc.1.1
        rw [this]
      · exact .inl (by simp [hc])
  · have := List.all_eq_true.mp ok.cell (y, .cell) (mem_of_lookup' hy)
    simp at this
  · cases i with
    | zero =>
      simp only [capNs, List.getElem?_cons_zero, Option.some.injEq] at ey
      subst ey
      simp only [capRo, List.getElem?_cons_zero, Option.some.injEq] at e
      cases e
      refine ⟨v, [], .inl ⟨?_, m, hCn, hm⟩, rv, fun z hz => (by cases hz), fun h => absurd rfl h, fun j q k' e hk hne hm => (by cases hm)⟩
      rw [kOf x, ok.loc]; rfl
    | succ j =>
      have hj : ∃ i0, caps[j]? = some i0 := by
        cases hq : caps[j]? with
        | none =>
          simp only [capRo, List.getElem?_cons_succ, List.getElem?_map, hq] at e
          cases e
        | some i0 => exact ⟨i0, rfl⟩
      obtain ⟨i0, hi0⟩ := hj
      have hcap := List.all_eq_true.mp ok.caps i0 (List.mem_of_getElem? hi0)
      cases hy : ns[i0]? with
      | none => simp [hy] at hcap
      | some y0 =>
        simp only [hy, beq_iff_eq] at hcap
        have ey' : y = y0 := by
          simp only [capNs, List.getElem?_cons_succ, List.getElem?_map, hi0, Option.map_some, hy, Option.getD_some, Option.some.injEq] at ey
          exact ey.symm
        subst ey'
        have e' : ρ[i0]? = some (some (pi, ki)) := by
          simp only [capRo, List.getElem?_cons_succ, List.getElem?_map, hi0, Option.map_some, Option.some.injEq] at e
          cases hr : ρ[i0]? with
          | none => rw [hr] at e; cases e
          | some z => rw [hr] at e; simp at e; rw [e]
        obtain ⟨w, fp, V, hCfp⟩ := hCf i0 y pi ki hy e'
        have hsc := frees y .free (mem_of_lookup' hcap) rfl
        have hk : env.kindOf y = some .cell := by
          rcases F.kinds y with h | ⟨h, h'⟩
          · rw [h, hsc]
          · exact h'
        have hk' : (compEnvC scope (clOf env.cells scope.names []) C env).kindOf y = some .cell := by
          rw [kOf y, hcap]
          simp [hk, F.kind]
        have hcl : ∃ c, (clOf env.cells scope.names []).lookup y = some c := by
          have := clOf_has env.cells (n := y) scope.names [] (mem_of_lookup' hcap)
          cases hq : (clOf env.cells scope.names []).lookup y with
          | none => rw [hq] at this; cases this
          | some c => exact ⟨c, rfl⟩
        obtain ⟨c, hc⟩ := hcl
        refine ⟨w, fp, ?_, V.rp, fun z hz => ⟨fun he => ?_, fun hi => (V.loc z hz).2 (isC z hi)⟩, fun hown => ?_, fun j' q' k' e'' hk'' hne => ?_⟩
        · rcases V.rd with ⟨r1, _⟩ | ⟨r1, c', r2, r3⟩
          · rw [hk] at r1; (first | obtain ⟨_, rfl, rfl⟩ := r1.inv | cases r1)
          · rw [cl1 y c hc] at r2; (first | obtain ⟨_, rfl, rfl⟩ := r2.inv | cases r2)
            exact .inr ⟨(.inl hk'), c, hc, r3⟩
        · exact hCfp ((show z = C from he) ▸ hz)
        · simp only [hi0, Option.getD_some]
          exact V.own hown
        · cases j' with
          | zero =>
            simp only [capRo, List.getElem?_cons_zero, Option.some.injEq] at e''
            cases e''; exact absurd rfl hk''
          | succ j' =>
            have hj2 : ∃ i1, caps[j']? = some i1 := by
              cases hq : caps[j']? with
              | none =>
                simp only [capRo, List.getElem?_cons_succ, List.getElem?_map, hq] at e''
                cases e''
              | some i1 => exact ⟨i1, rfl⟩
            obtain ⟨i1, hi1⟩ := hj2
            have e3 : ρ[i1]? = some (some (q', k')) := by
              simp only [capRo, List.getElem?_cons_succ, List.getElem?_map, hi1, Option.map_some, Option.some.injEq] at e''
              cases hr : ρ[i1]? with
              | none => rw [hr] at e''; cases e''
              | some z => rw [hr] at e''; simp at e''; rw [e'']
            simp only [hi1, Option.getD_some]
            by_cases h01 : i1 = i0
            · subst h01
              obtain ⟨g1, g2⟩ := List.getElem?_eq_some_iff.mp hi0
              obtain ⟨g3, g4⟩ := List.getElem?_eq_some_iff.mp hi1
              exact absurd (congrArg Nat.succ ((List.getElem_inj ok.nd).mp (g4.trans g2.symm))) hne
            · exact V.sep i1 q' k' e3 hk'' h01

/-! comprehensions of atoms -/
noncomputable def atomOf : Value → PV
  | .int i _ => .int i
  | .bool b => .bool b
  | .str x _ => .str x
  | _ => .none
theorem Rp.atomOf {h : Heap} {v : Value} {fp : List Addr} (r : Rp S h v p fp) (a : p.atom = true) : Mine.atomOf v = p := by
  (first | obtain ⟨_, rfl, rfl⟩ := r.inv | cases r) <;> first | rfl | cases a
theorem Rp.anyHeap {h h' : Heap} {v : Value} {fp : List Addr} (r : Rp S h v p fp) (a : p.atom = true) : Rp S h' v p [] := by
  have := r.atomNil a
  subst this
  exact r.mono fun x hx => by cases hx

inductive TrC (S : Sys) (sc : Scope) (ns : List Str) (b : Bool) (d : Nat) (ρ : Ro) : List Expr → Bool → Prop
  | nil : TrC S sc ns b d ρ [] true
  | one {e : Expr} {t : Bool} : Tr S sc ns b d ρ e t → TrC S sc ns b d ρ [e] t

theorem Gd.iter {h h' : Heap} {I : Addr} (G : Gd S h) (it : Itr h I) (hb : S.hT.get? I = none) (k : ∀ x o, x ≠ I → h.get? x = some o → h'.get? x = some o) : Gd S h' := by
  obtain ⟨oI, vsI, e1, e2, e3, e4⟩ := it
  refine ⟨fun x o hx e => k x o (fun he => ?_) (G.top x o hx e), fun t ht => ?_⟩
  · subst he; rw [hb] at e; cases e
  · obtain ⟨ps, e, r⟩ := G.tab t ht
    refine ⟨ps, k _ _ (fun he => ?_) e, r.imp id fun ⟨c', q1, c, o, vs, t', q2, q3, q4, q5⟩ => ⟨c', q1, c, o, vs, t', q2, k _ _ (fun he => ?_) q3, q4, q5⟩⟩
    · subst he; rw [e] at e1; cases e1; exact e2 rfl
    · subst he; rw [q3] at e1; cases e1; rw [q4] at e3; cases e3; exact e4 _ _ q5

theorem Var.iter {h h' : Heap} {I : Addr} {i : Nat} {x : Str} {k : Own} {v : Value} {fp : List Addr} (V : Var S base env h ρ rt i x p k v fp) (it : Itr h I) (kk : ∀ x o, x ≠ I → h.get? x = some o → h'.get? x = some o) : Var S base env h' ρ rt i x p k v fp := by
  obtain ⟨oI, vsI, e1, e2, e3, e4⟩ := it
  have k' : ∀ {x o}, h.get? x = some o → (∀ vs, o.data ≠ .fields vs) → h'.get? x = some o := fun e hd => kk _ _ (fun he => by subst he; rw [e1] at e; cases e; exact hd _ e3) e
  refine ⟨?_, V.rp.mono fun y hy o e => k' e (V.rp.kinds y hy o e), V.loc, fun hk => ?_, V.sep⟩
  · rcases V.rd with ⟨r1, m', ⟨o, es, ep, z1, z2, z3⟩, r3⟩ | ⟨r1, c, r2, o, r3, r4⟩
    · exact .inl ⟨r1, m', ⟨o, es, ep, k' z1 (fun vs h => by rw [z2] at h; cases h), z2, z3⟩, r3⟩
    · exact .inr ⟨r1, c, r2, o, k' r3 (fun vs h => by rw [r4] at h; cases h), r4⟩
  · obtain ⟨o1, o2, ⟨ob, o3, o4, o5⟩, o6⟩ := V.own hk
    exact ⟨o1, o2, ⟨ob, k' o3 o5, o4, o5⟩, o6⟩

theorem compKp {s2 : Shared} {I : Addr} {h' : Heap} {tk : Nat} (k : Kp S b s s2) (it : Itr s2.heap I) (hf : s.heap.get? I = none) (hT : S.hT.get? I = none) (hk : ∀ x o, x ∉ [I] → s2.heap.get? x = some o → h'.get? x = some o) : Kp S b s { s2 with heap := h', toks := tk } := by
  have hk' : ∀ x o, x ≠ I → s2.heap.get? x = some o → h'.get? x = some o := fun x o hx e => hk x o (fun hm => by cases hm with | head => exact hx rfl | tail _ h => cases h) e
  obtain ⟨hh, tk0, e, kk, g⟩ := k
  refine ⟨h', tk, by rw [e], fun x o a hb ex => hk' x o (fun he => ?_) (by rw [e]; exact kk x o a hb ex), ?_⟩
  · rw [he, hf] at ex; cases ex
  · rw [e] at it hk'
    exact g.iter it hT hk'

theorem paired_out {h : Heap} {f : PV → PV} {tst : PV → Bool} : ∀ {vs : List Value} {ys : List Value}, Paired (fun v y => ∀ h, (tst (atomOf v) = true) → Rp S h y (f (atomOf v)) []) (vs.filter fun v => tst (atomOf v)) ys →
    Rps S h ys (((vs.map atomOf).filter tst).map f) []
  | [], _, pr => by cases pr; exact .nil
  | v :: vs, ys, pr => by
    rw [List.map_cons]
    by_cases ht : tst (atomOf v) = true
    · rw [List.filter_cons_of_pos (by simpa using ht)] at pr
      rw [List.filter_cons_of_pos ht, List.map_cons]
      cases pr with
      | cons a r => exact .cons (f1 := []) (a h ht) (paired_out r)
    · rw [List.filter_cons_of_neg (by simpa using ht)] at pr
      rw [List.filter_cons_of_neg ht]
      exact paired_out pr

theorem comp_quiet {A : Around} {scope : Scope} {x : Str} {caps : List Nat} {ifs : List Expr} {elt : Expr} {items : List PV} {tst : PV → Bool} {f : PV → PV} {s2 : Shared} {I : Addr} {fp : List Addr} {P : Nat → Value → Prop} {St : Nat → Heap → Prop}
    (R : Room d A) (F : Fm S sc ns base env s.heap ρ rt) (it : Iter S b A env ρ rt s items s2 I fp P St) (ok : CompOk sc ns scope x caps) (ha : items.all (·.atom) = true)
    (ht : ∀ p ∈ items, TrC S scope (capNs ns x caps) true d (capRo ρ p caps) ifs (tst p))
    (he : ∀ p ∈ items, tst p = true → Ev S scope (capNs ns x caps) true d .R (capRo ρ p caps) elt (f p)) (hf : ∀ p ∈ items, tst p = true → (f p).atom = true) :
    QuietOnC S.prog S.w A env scope (clOf env.cells scope.names []) x ifs elt [I] P (fun v => tst (atomOf v)) (fun v y => ∀ h, (tst (atomOf v) = true) → Rp S h y (f (atomOf v)) []) s2 := by
  have F2 := F.kp it.kp
  have bI : base.get? I = none := by
    cases e : base.get? I with
    | none => rfl
    | some o => obtain ⟨o', e'⟩ := F.alive I o e; rw [it.fresh] at e'; cases e'
  have fr : ∀ {C : Addr} {v : Value} {s₃ : Shared} {m₃ : Str → Option Value} {i : Nat}, s2.heap.objs.size ≤ C → P i v → s₃.heap.Ns C m₃ → m₃ x = some v → (∀ y o, y ∉ [I] → s2.heap.get? y = some o → s₃.heap.get? y = some o) →
      ∃ p, p ∈ items ∧ atomOf v = p ∧ ∃ rt', Fm S scope (capNs ns x caps) base (compEnvC scope (clOf env.cells scope.names []) C env) s₃.heap (capRo ρ p caps) rt' := by
    intro C v s₃ m₃ i hC hP hn hm hk
    obtain ⟨p, f, e1, e2, _⟩ := it.item i v hP
    have hmem := List.mem_of_getElem? e1
    have hat := List.all_eq_true.mp ha p hmem
    have F3 : Fm S sc ns base env s₃.heap ρ rt := F2.iter (it.itr 0 _ it.st) bI (fun y o hy e => hk y o (fun hm => by cases hm with | head => exact hy rfl | tail _ h => cases h) e) fun o e => by rw [bI] at e; cases e
    have none2 : s2.heap.get? C = none := by
      cases e : s2.heap.get? C with
      | none => rfl
      | some o => exact absurd (Heap.lt_size e) (Nat.not_lt.mpr hC)
    refine ⟨p, hmem, e2.atomOf hat, F3.comp ok ?_ hn hm (e2.anyHeap hat) fun i x p k ex e => ?_⟩
    · cases e : base.get? C with
      | none => rfl
      | some o => obtain ⟨o', e'⟩ := F2.alive C o e; rw [none2] at e'; cases e'
    · obtain ⟨v, fp, V⟩ := F2.vars i x p k ex e
      refine ⟨v, fp, V.iter (it.itr 0 _ it.st) (fun y o hy e => hk y o (fun hm => by cases hm with | head => exact hy rfl | tail _ h => cases h) e), fun hm => ?_⟩
      obtain ⟨_, o, eo⟩ := V.rp.lives C hm
      rw [none2] at eo; cases eo
  refine ⟨fun C i v s₃ m₃ E' hC hP hn hm hk _ => ?_, fun C i v s₃ m₃ E' hC hP hpv hn hm hk _ => ?_⟩
  · obtain ⟨p, hp, ep, rt', Fc⟩ := fr hC hP hn hm hk
    have key : ∀ {t : Bool}, TrC S scope (capNs ns x caps) true d (capRo ρ p caps) ifs t →
        wpAny (model S.prog S.w) A (forIn ifs true fun c r => if r = true then do let ok ← isTrue c (compEnvC scope (clOf env.cells scope.names []) C env) (eval c (compEnvC scope (clOf env.cells scope.names []) C env)); pure (ForInStep.yield ok) else pure (ForInStep.yield r))
          (fun ok s₄ => ok = t ∧ Keeps s₃ s₄) No s₃ := by
      intro t tp
      cases tp with
      | nil => exact wpAny_pure ⟨rfl, s₃.heap, s₃.toks, rfl, fun _ _ e => e⟩
      | one t1 =>
        simp only [List.forIn_cons, List.forIn_nil, if_true]
        refine wpAny_bind (wpAny_bind (t1 A base _ s₃ rt' _ R Fc fun s4 k4 => wpAny_pure (wpAny_pure ⟨rfl, ?_⟩)))
        obtain ⟨h, tk, e, kk, _⟩ := k4
        exact ⟨h, tk, e, fun y o ey => kk y o id (.inl rfl) ey⟩
    have k2 := key (ht p hp)
    rw [← ep] at k2
    exact wpAny_mono k2 (fun _ _ h => h) fun _ _ h => h.elim
  · obtain ⟨p, hp, ep, rt', Fc⟩ := fr hC hP hn hm hk
    rw [ep] at hpv
    refine wpAny_mono (E := No) (he p hp hpv A base _ s₃ rt' _ R Fc fun y s4 fp4 k4 r4 _ => ?_) (fun _ _ h => h) fun _ _ h => h.elim
    obtain ⟨h, tk, e, kk, _⟩ := k4
    exact ⟨fun h' _ => by rw [ep]; exact r4.anyHeap (hf p hp hpv), h, tk, e, fun y o ey => kk y o id (.inl rfl) ey⟩
end
end Mine
open PySem PySem.Calls PyProof.Rows PySem.W
set_option Elab.async false
set_option autoImplicit false
set_option linter.unusedVariables false
namespace Mine
section
variable {S : Sys} {sc : Scope} {ns : List Str} {base : Heap} {env : Env} {s s' s0 : Shared} {ρ : Ro} {rt : Nat → Addr} {b : Bool} {d : Nat} {q : Md} {p p1 p2 p' : PV} {mg mb : Str → Option Value}

theorem CompOk.cell' {scope : Scope} {x : Str} {caps : List Nat} (ok : CompOk sc ns scope x caps) : ∀ y ∈ scope.names, y.2 ≠ .cell := fun y hy h => by
  have := List.all_eq_true.mp ok.cell y hy
  rw [h] at this; simp at this
theorem CompOk.names' {scope : Scope} {x : Str} {caps : List Nat} (ok : CompOk sc ns scope x caps) : ∀ y ∈ scope.names, y.2 = .local → scope.names.lookup y.1 = some .local := fun y hy h => by
  have := List.all_eq_true.mp ok.names y hy
  rw [h] at this; simpa using this
theorem CompOk.clos {h : Heap} {scope : Scope} {x : Str} {caps : List Nat} (ok : CompOk sc ns scope x caps) (F : Fm S sc ns base env h ρ rt) : closureFor scope env = pure (clOf env.cells scope.names []) :=
  closureFor_is fun n k hm hk => F.cellsAll n (by
    have := List.all_eq_true.mp ok.free (n, k) hm
    subst hk
    simpa using this)

theorem Iter.topNone {A : Around} {items : List PV} {s2 : Shared} {I : Addr} {fp : List Addr} {P : Nat → Value → Prop} {St : Nat → Heap → Prop} (it : Iter S b A env ρ rt s items s2 I fp P St) (F : Fm S sc ns base env s.heap ρ rt) : S.hT.get? I = none := by
  cases e : S.hT.get? I with
  | none => rfl
  | some o =>
    obtain ⟨o', e'⟩ := F.top I o e
    obtain ⟨o2, e2⟩ := F.alive I o' e'
    rw [it.fresh] at e2; cases e2

theorem items_of {A : Around} {items : List PV} {s2 : Shared} {I : Addr} {fp : List Addr} {P : Nat → Value → Prop} {St : Nat → Heap → Prop} (it : Iter S b A env ρ rt s items s2 I fp P St) (ha : items.all (·.atom) = true) {vs : List Value}
    (hl : vs.length = items.length) (hP : ∀ j v, vs[j]? = some v → P j v) : vs.map atomOf = items := by
  apply List.ext_getElem?
  intro j
  rw [List.getElem?_map]
  cases hv : vs[j]? with
  | none =>
    have : items.length ≤ j := by rw [← hl]; exact List.getElem?_eq_none_iff.mp hv
    rw [List.getElem?_eq_none_iff.mpr this]; rfl
  | some v =>
    obtain ⟨p, f, e1, e2, _⟩ := it.item j v (hP j v hv)
    rw [e1, Option.map_some, e2.atomOf (List.all_eq_true.mp ha p (List.mem_of_getElem? e1))]

theorem Ev.comp {elt iter : Expr} {x : Str} {px : Pos} {ifs : List Expr} {scope : Scope} {pos : Pos} {items : List PV} {tst : PV → Bool} {f : PV → PV} (caps : List Nat) (ok : CompOk sc ns scope x caps) (hit : It S sc ns b d ρ iter items)
    (ha : items.all (·.atom) = true) (hsz : items.length ≤ sizeLine)
    (ht : ∀ p ∈ items, TrC S scope (capNs ns x caps) true d (capRo ρ p caps) ifs (tst p))
    (he : ∀ p ∈ items, tst p = true → Ev S scope (capNs ns x caps) true d .R (capRo ρ p caps) elt (f p)) (hf : ∀ p ∈ items, tst p = true → (f p).atom = true)
    (hs : ∀ env x, foldedSetIterable iter env x = pure x := by intro _ _; rfl) :
    Ev S sc ns b d q ρ (.ListComp elt [⟨.Name x px, iter, ifs, 0⟩] scope pos) (.list ((items.filter tst).map f)) := by
  intro A base env s rt Q R F hQ
  refine wpAny_ListComp_free (fun v => tst (atomOf v)) (fun v y => ∀ h, (tst (atomOf v) = true) → Rp S h y (f (atomOf v)) []) (ok.clos F) ok.cell' ok.kind ok.names' ok.loc (hit A base env s rt _ R F fun s2 I fp P St it => ?_) (hs env)
  refine ⟨I, fp, [I], items.length, P, St, rfl, it.W, hsz, it.st, fun y hy => let ⟨_, _, o, e⟩ := it.fpOk y hy; Heap.lt_size e, comp_quiet R F it ok ha ht he hf, fun D h' tk ys vs hD _ hpl hlen hP hpr hk => ?_⟩
  have hT := it.topNone F
  have kp : Kp S b s { s2 with heap := h', toks := tk } := compKp it.kp (it.itr 0 _ it.st) it.fresh hT hk
  have hout : Rps S h' ys.toList ((items.filter tst).map f) [] := by
    have := paired_out (S := S) (h := h') hpr
    rw [items_of it ha hlen hP] at this
    exact this
  have hDT : D ∉ S.TB := fun hm => by obtain ⟨ps, e⟩ := tb_data it.kp.gd.tab hm; rw [hD] at e; cases e
  have hpl' : h'.PlainList D ys.toList.toArray := by simpa using hpl
  refine hQ (.ref D) { s2 with heap := h', toks := tk } [D] kp (.list hDT hpl' hout) (MdOk.ofF F (fun y hy => ?_) q)
  cases hy with
  | head => exact it.kp.dead hD
  | tail _ h => cases h

theorem comp_store {k : Own} {A : Around} {i : Nat} {y : Str} {items : List PV} {s2 : Shared} {I D : Addr} {fp : List Addr} {P : Nat → Value → Prop} {St : Nat → Heap → Prop} {h' : Heap} {tk : Nat} {ys : List Value} {ps : List PV} {m : Str → Option Value}
    (F : Fm S sc ns base env s.heap ρ rt) (it : Iter S b A env ρ rt s items s2 I fp P St) (nd : ns.Nodup) (hn : ns[i]? = some y) (ky : env.kindOf y = some .local)
    (hD : s2.heap.get? D = none) (hpl : h'.PlainList D ys.toArray) (hr : Rps S h' ys ps []) (hns : s2.heap.Ns env.locals m) (hns' : h'.Ns env.locals (fun z => if z = y then some (.ref D) else m z))
    (hk : ∀ x o, x ≠ env.locals → x ∉ [I] → s2.heap.get? x = some o → h'.get? x = some o) :
    NextIs S sc ns b base env ρ rt s { s2 with heap := h', toks := tk } (ρ.set i (some (.list ps, k))) := by
  have F2 := F.kp it.kp
  obtain ⟨oL, es, ep, eL, dL, sL, fL⟩ := id hns
  obtain ⟨oL', es', ep', eL', dL', _⟩ := id hns'
  have fL' : ((fun _ => oL) oL' : Obj).isFreed = false := (Heap.get?_some_iff.mp eL).2
  let hm : Heap := h'.update env.locals (fun _ => oL)
  have hmL : hm.get? env.locals = some oL := Heap.get?_update_self _ eL' fL'
  have hmN : ∀ x, x ≠ env.locals → hm.get? x = h'.get? x := fun x hx => Heap.get?_update_other _ _ (Ne.symm hx)
  have sb : Heap.SameBut env.locals hm h' := ⟨(Heap.SameBut.update h' env.locals _).1.symm, fun x hx => (hmN x hx).symm⟩
  have nI : env.locals ≠ I := fun he => by
    obtain ⟨o, vs, z1, _, z3, _⟩ := it.itr 0 _ it.st
    rw [← he, eL] at z1; cases z1; rw [dL] at z3; cases z3
  have hkm : ∀ x o, x ∉ [I] → s2.heap.get? x = some o → hm.get? x = some o := fun x o hx e => by
    by_cases hL : x = env.locals
    · subst hL; rw [eL] at e; cases e; exact hmL
    · rw [hmN x hL]; exact hk x o hL hx e
  have kp : Kp S b s { s2 with heap := hm, toks := tk } := compKp it.kp (it.itr 0 _ it.st) it.fresh (it.topNone F) hkm
  have DL : D ≠ env.locals := fun he => by rw [he, eL] at hD; cases hD
  have hDT : D ∉ S.TB := fun hm => by obtain ⟨ps, e⟩ := tb_data it.kp.gd.tab hm; rw [hD] at e; cases e
  obtain ⟨n, eD⟩ := id hpl
  have fresh : ∀ z ∈ [D], s.heap.get? z = none := fun z hz => by cases hz with | head => exact it.kp.dead hD | tail _ h => cases h
  have c := Clean.fresh F fresh
  have st : Storable S base env s { s2 with heap := hm, toks := tk } ρ rt (fun j => if j = i then D else rt j) i (.list ps) k (.ref D) [D] := by
    refine ⟨.list hDT ⟨n, by rw [hmN D DL]; exact eD⟩ (hr.mono fun x hx => by cases hx), fun j hj => by simp [hj], fun z hz => ⟨(c z hz).1, (c z hz).2.1⟩, fun j q k' e hk' _ hm => (c _ hm).2.2 j q k' e hk' rfl, fun _ => ?_⟩
    show Value.ref D = Value.ref (if i = i then D else rt i) ∧ _ ∧ (∃ ob, hm.get? (if i = i then D else rt i) = _ ∧ _) ∧ ∃ fp', [D] = (if i = i then D else rt i) :: fp' ∧ _
    rw [if_pos rfl]
    exact ⟨rfl, fresh, ⟨_, by rw [hmN D DL]; exact eD, rfl, fun _ h => by cases h⟩, [], rfl, by intro h; cases h⟩
  refine F.stored kp nd hn st (.inl rfl) sb (.inl ⟨ky, _, hns', by simp⟩) ⟨_, hns'⟩ (fun c hc => ?_) (fun z w hz r => ?_) tk
  · obtain ⟨_, v, o, e, e2⟩ := F2.cellB c hc
    refine ⟨v, o, hk c o (isCellOf.ne F2 hc) (fun hm => ?_) e, e2⟩
    cases hm with
    | head =>
      obtain ⟨o', vs, z1, _, z3, _⟩ := it.itr 0 _ it.st
      rw [e] at z1; cases z1; rw [e2] at z3; cases z3
    | tail _ h => cases h
  · rcases r with ⟨r1, m', r2, r3⟩ | ⟨r1, c, r2, o, r3, r4⟩
    · refine .inl ⟨r1, _, hns', ?_⟩
      have hmNs : hm.Ns env.locals m := ⟨oL, es, ep, hmL, dL, sL, fL⟩
      have : m' z = m z := ns_unique r2 hmNs z
      simp [hz, ← this, r3]
    · exact .inr ⟨r1, c, r2, o, (sb.2 c (isCellOf.ne F2 ⟨z, r2⟩)).trans r3, r4⟩

theorem swaps_local {scope : Scope} {elt iter : Expr} {x y : Str} {px py : Pos} {ifs : List Expr} {pos spos : Pos} (hb : env.blockKind = .function) (hk : env.kindOf y = some .local) (hl : (py.line == pos.line) = true)
    (hv : (scope.names.any fun z => z.1 == y && (z.2 == .local || z.2 == .cell)) = false) : swapsWith (.ListComp elt [⟨.Name x px, iter, ifs, 0⟩] scope pos) (some (.Name y py)) spos.line env = pure true := by
  show (pure (env.blockKind == .function && env.kindOf y == some .local && py.line == pos.line && !(scope.names.any fun z => z.1 == y && (z.2 == .local || z.2 == .cell))) : Sem Bool) = pure true
  rw [hb, hk, hl, hv]; rfl
theorem swaps_cell {scope : Scope} {elt iter : Expr} {x y : Str} {px py : Pos} {ifs : List Expr} {pos spos : Pos} (hk : env.kindOf y = some .cell) : swapsWith (.ListComp elt [⟨.Name x px, iter, ifs, 0⟩] scope pos) (some (.Name y py)) spos.line env = pure false := by
  show (pure (env.blockKind == .function && env.kindOf y == some .local && py.line == pos.line && !(scope.names.any fun z => z.1 == y && (z.2 == .local || z.2 == .cell))) : Sem Bool) = pure false
  rw [hk]
  have : (some NameKind.cell == some NameKind.local) = false := by decide
  rw [this, Bool.and_false]; rfl

theorem S1.assignComp {elt iter : Expr} {x y : Str} {px py : Pos} {ifs : List Expr} {scope : Scope} {pos spos : Pos} {items : List PV} {tst : PV → Bool} {f : PV → PV} {Φ : Out → Prop} (k : Own) (i : Nat) (hn : ns[i]? = some y) (caps : List Nat) (ok : CompOk sc ns scope x caps)
    (hit : It S sc ns b d ρ iter items) (ha : items.all (·.atom) = true) (hsz : items.length ≤ sizeLine)
    (ht : ∀ p ∈ items, TrC S scope (capNs ns x caps) true d (capRo ρ p caps) ifs (tst p))
    (he : ∀ p ∈ items, tst p = true → Ev S scope (capNs ns x caps) true d .R (capRo ρ p caps) elt (f p)) (hf : ∀ p ∈ items, tst p = true → (f p).atom = true)
    (hΦ : Φ (.next (ρ.set i (some (.list ((items.filter tst).map f), k))))) (nd : ns.Nodup) (hk : sc.names.lookup y = some .local) (hl : (py.line == pos.line) = true := by rfl)
    (hv : (scope.names.any fun z => z.1 == y && (z.2 == .local || z.2 == .cell)) = false := by rfl)
    (hs : ∀ env x, foldedSetIterable iter env x = pure x := by intro _ _; rfl) :
    S1 S sc ns b d ρ (.Assign [.Name y py] (.ListComp elt [⟨.Name x px, iter, ifs, 0⟩] scope pos) spos) Φ := by
  intro A base env s rt Q R F hQ
  have ky := F.kindOf' _ hk (by intro h; cases h)
  have hb : env.blockKind = .function := by unfold Env.blockKind; rw [F.kind]; rfl
  refine wpAny_Assign_ListComp_free (fun v => tst (atomOf v)) (fun v y => ∀ h, (tst (atomOf v) = true) → Rp S h y (f (atomOf v)) []) (swaps_local hb ky hl hv) (ok.clos F) ok.cell' ok.kind ok.names' ok.loc ky (by rw [F.kind]; rfl)
    (hit A base env s rt _ R F fun s2 I fp P St it => ?_) (hs env)
  have F2 := F.kp it.kp
  obtain ⟨m, hns⟩ := F2.ns1
  have nI : env.locals ∉ [I] := fun hm => by
    cases hm with
    | head =>
      obtain ⟨o, vs, z1, _, z3, _⟩ := it.itr 0 _ it.st
      obtain ⟨oL, es, ep, eL, dL, _⟩ := hns
      rw [eL] at z1; cases z1; rw [dL] at z3; cases z3
    | tail _ h => cases h
  refine ⟨I, fp, [I], items.length, P, St, m, rfl, it.W, hsz, it.st, fun y hy => let ⟨_, _, o, e⟩ := it.fpOk y hy; Heap.lt_size e, nI, hns, comp_quiet R F it ok ha ht he hf, fun D h' tk ys vs hD _ hpl hlen hP hpr hns' hkk => ?_⟩
  have hout : Rps S h' ys.toList ((items.filter tst).map f) [] := by
    have := paired_out (S := S) (h := h') hpr
    rw [items_of it ha hlen hP] at this
    exact this
  exact hQ _ .next _ hΦ ⟨rfl, comp_store F it nd hn ky hD (by simpa using hpl) hout hns hns' hkk⟩

theorem S1.while {t : Expr} {body orelse : List Stmt} {pos : Pos} {Φ : Out → Prop} (n : Nat) (J : Nat → Ro) (h0 : Le (J 0) ρ) (ht : ∀ j, j < n → Tr S sc ns b d (J j) t true) (hf : Tr S sc ns b d (J n) t false)
    (step : ∀ j, j < n → Sx S sc ns b d (J j) body (LoopPost Φ J (j + 1))) (hend : Sx S sc ns b d (J n) orelse Φ) : S1 S sc ns b d ρ (.While t body orelse pos) Φ := by
  intro A base env s rt Q R F hQ
  refine wpAny_While ?_
  refine codeAny_whileLoop (fun k s' => ∃ j rt', j ≤ n ∧ k = n + 1 - j ∧ Stp S b env ρ rt s s' ∧ RootOk ρ rt s.heap (J j) rt' ∧ Fm S sc ns base env s'.heap (J j) rt') ?_ (n + 1) ⟨0, rt, Nat.zero_le _, rfl, .ofKp (Kp.refl F.gd), .forget h0, F.forget h0⟩
  rintro k s' ⟨j, rt', hj, rfl, st, ro, Fj⟩
  by_cases hlt : j < n
  · refine wpAny_mono (E := No) (ht j hlt A base env s' rt' _ R Fj fun s2 k2 => ?_) (fun _ _ h => h) fun _ _ h => h.elim
    simp only [if_true]
    have st2 : Stp S b env ρ rt s s2 := st.trans ro (.ofKp k2)
    refine wpAny_mono (E := No) (step j hlt A base env s2 rt' (fun f s₃ => match f with
            | .next | .cont => ∃ m, m < n + 1 - j ∧ ∃ j rt', j ≤ n ∧ m = n + 1 - j ∧ Stp S b env ρ rt s s₃ ∧ RootOk ρ rt s.heap (J j) rt' ∧ Fm S sc ns base env s₃.heap (J j) rt'
            | .brk => Q .next s₃
            | .ret v => Q (.ret v) s₃) R (Fj.kp k2) fun o f s3 ho oi => ?_) (fun f s4 h4 => by cases f <;> exact h4) fun _ _ h => h.elim
    have oi' := OutIs.trans st2 ro oi
    have goOn : ∀ {ρ5 : Ro}, NextIs S sc ns b base env ρ rt s s3 ρ5 → Le (J (j + 1)) ρ5 → ∃ m, m < n + 1 - j ∧ ∃ j rt', j ≤ n ∧ m = n + 1 - j ∧ Stp S b env ρ rt s s3 ∧ RootOk ρ rt s.heap (J j) rt' ∧ Fm S sc ns base env s3.heap (J j) rt' := by
      rintro ρ5 ⟨st5, rt5, ro5, F5⟩ le
      exact ⟨n + 1 - (j + 1), by (first | lia | omega), j + 1, rt5, hlt, rfl, st5, fun i p k e hk => ro5 i p k (le.2 i _ e) hk, F5.forget le⟩
    cases o with
    | next ρ5 => obtain ⟨rfl, n5⟩ := oi'; exact goOn n5 ho
    | cont ρ5 => obtain ⟨rfl, n5⟩ := oi'; exact goOn n5 ho
    | brk ρ5 => obtain ⟨rfl, n5⟩ := oi'; exact hQ (.next ρ5) .next s3 ho ⟨rfl, n5⟩
    | ret p5 => obtain ⟨v5, f5, rfl, n5⟩ := oi'; exact hQ (.ret p5) (.ret v5) s3 ho ⟨v5, f5, rfl, n5⟩
  · have hjn : j = n := by (first | lia | omega)
    subst hjn
    refine wpAny_mono (E := No) (hf A base env s' rt' _ R Fj fun s2 k2 => ?_) (fun _ _ h => h) fun _ _ h => h.elim
    simp only [Bool.false_eq_true, if_false]
    exact wpAny_mono (E := No) (hend A base env s2 rt' Q R (Fj.kp k2) fun o f s3 ho oi => hQ o f s3 ho (OutIs.trans (st.trans ro (.ofKp k2)) ro oi)) (fun _ _ h => h) fun _ _ h => h.elim

/-! a container of the frame's own, left alone while a loop runs through it -/
noncomputable def thaw (i : Nat) (Φ : Out → Prop) : Out → Prop
  | .next ρ' => ∃ p, ρ'[i]? = some (some (p, .frz)) ∧ Φ (.next (ρ'.set i (some (p, .mut))))
  | .brk ρ' => ∃ p, ρ'[i]? = some (some (p, .frz)) ∧ Φ (.brk (ρ'.set i (some (p, .mut))))
  | .cont ρ' => ∃ p, ρ'[i]? = some (some (p, .frz)) ∧ Φ (.cont (ρ'.set i (some (p, .mut))))
  | .ret p => Φ (.ret p)

theorem Fm.recolour {h : Heap} {i : Nat} {k k' : Own} (F : Fm S sc ns base env h ρ rt) (hρ : ρ[i]? = some (some (p, k))) (hk : k ≠ .imm) (hk' : k' ≠ .imm) : Fm S sc ns base env h (ρ.set i (some (p, k'))) rt := by
  have li : i < ρ.length := (List.getElem?_eq_some_iff.mp hρ).1
  have getI : (ρ.set i (some (p, k')))[i]? = some (some (p, k')) := by rw [List.getElem?_set_self li]
  refine ⟨F.gd, F.kind, F.kinds, F.glob, F.blt, F.top, F.alive, F.nsB, F.ns1, F.cellB, F.cellInj, F.cellsAll, by rw [List.length_set]; exact F.len, fun j y pj kj ey e => ?_⟩
  have sepOk : ∀ {x : Nat} {fp : List Addr}, (∀ j q k', ρ[j]? = some (some (q, k')) → k' ≠ .imm → j ≠ x → rt j ∉ fp) → ∀ j q k'', (ρ.set i (some (p, k')))[j]? = some (some (q, k'')) → k'' ≠ .imm → j ≠ x → rt j ∉ fp := fun h j q k'' e hk'' hne => by
    by_cases hji : j = i
    · subst hji; exact h j p k hρ hk hne
    · rw [getElem?_set_ne' hji] at e; exact h j q k'' e hk'' hne
  by_cases hji : j = i
  · subst hji
    rw [getI] at e; cases e
    obtain ⟨v, fp, V⟩ := F.vars j y p k ey hρ
    exact ⟨v, fp, V.rd, V.rp, V.loc, fun _ => V.own hk, sepOk V.sep⟩
  · rw [getElem?_set_ne' hji] at e
    obtain ⟨v, fp, V⟩ := F.vars j y pj kj ey e
    exact ⟨v, fp, V.rd, V.rp, V.loc, V.own, sepOk V.sep⟩

theorem S1.frozen {st : Stmt} {Φ : Out → Prop} (i : Nat) (hρ : ρ[i]? = some (some (p, .mut))) (h : S1 S sc ns b d (ρ.set i (some (p, .frz))) st (thaw i Φ)) : S1 S sc ns b d ρ st Φ := by
  intro A base env s rt Q R F hQ
  have li : i < ρ.length := (List.getElem?_eq_some_iff.mp hρ).1
  have getI : (ρ.set i (some (p, Own.frz)))[i]? = some (some (p, Own.frz)) := by rw [List.getElem?_set_self li]
  have ownB : ∀ x, ownOf env (ρ.set i (some (p, Own.frz))) rt x → ownOf env ρ rt x := fun x ho => by
    rcases ho with ho | ho | ⟨j, q, e, hr⟩
    · exact .inl ho
    · exact .inr (.inl ho)
    · by_cases hji : j = i
      · subst hji; rw [getI] at e; cases e
      · rw [getElem?_set_ne' hji] at e; exact .inr (.inr ⟨j, q, e, hr⟩)
  have stB : ∀ {s'}, Stp S b env (ρ.set i (some (p, Own.frz))) rt s s' → Stp S b env ρ rt s s' := fun x => ⟨x.same, fun z o hz => x.keep z o fun ho => hz (ownB z ho), x.alive⟩
  refine h A base env s rt Q R (F.recolour hρ (by intro h; cases h) (by intro h; cases h)) fun o f s' ho oi => ?_
  have nx : ∀ {ρ' p'}, ρ'[i]? = some (some (p', Own.frz)) → NextIs S sc ns b base env (ρ.set i (some (p, Own.frz))) rt s s' ρ' → NextIs S sc ns b base env ρ rt s s' (ρ'.set i (some (p', Own.mut))) := by
    rintro ρ' p' e ⟨x, rt', ro, F'⟩
    have li' : i < ρ'.length := (List.getElem?_eq_some_iff.mp e).1
    refine ⟨stB x, rt', fun j q k e' hk => ?_, F'.recolour e (by intro h; cases h) (by intro h; cases h)⟩
    by_cases hji : j = i
    · subst hji
      rw [List.getElem?_set_self li'] at e'; cases e'
      rcases ro j p' .frz e (by intro h; cases h) with ⟨z1, _⟩ | z1
      · exact .inl ⟨z1, p, hρ⟩
      · exact .inr z1
    · rw [getElem?_set_ne' hji] at e'
      rcases ro j q k e' hk with ⟨z1, p2, z2⟩ | z1
      · rw [getElem?_set_ne' hji] at z2; exact .inl ⟨z1, p2, z2⟩
      · exact .inr z1
  cases o with
  | next ρ' => obtain ⟨p', e, hh⟩ := ho; obtain ⟨rfl, n⟩ := oi; exact hQ _ .next s' hh ⟨rfl, nx e n⟩
  | brk ρ' => obtain ⟨p', e, hh⟩ := ho; obtain ⟨rfl, n⟩ := oi; exact hQ _ .brk s' hh ⟨rfl, nx e n⟩
  | cont ρ' => obtain ⟨p', e, hh⟩ := ho; obtain ⟨rfl, n⟩ := oi; exact hQ _ .cont s' hh ⟨rfl, nx e n⟩
  | ret p' => obtain ⟨v, fp, rfl, x, r⟩ := oi; exact hQ _ (.ret v) s' ho ⟨v, fp, rfl, stB x, r⟩
end
end Mine
open PySem PySem.Calls PyProof.Rows PySem.W
set_option Elab.async false
set_option autoImplicit false
set_option linter.unusedVariables false
namespace Mine
section
variable {S : Sys} {sc : Scope} {ns : List Str} {base : Heap} {env : Env} {s s' s0 : Shared} {ρ : Ro} {rt : Nat → Addr} {b : Bool} {d : Nat} {q : Md} {p p1 p2 p' : PV} {mg mb : Str → Option Value}

theorem bindL_other {kindOf : Str → Option NameKind} {x : Str} : ∀ {bs : List (Str × Value)} {m : Str → Option Value}, (∀ y ∈ bs, y.1 ≠ x) → bindL kindOf bs m x = m x
  | [], _, _ => rfl
  | (n, v) :: r, m, h => by
    unfold bindL
    rw [bindL_other fun y hy => h y (.tail _ hy)]
    split
    · exact if_neg (Ne.symm (h _ (.head _)))
    · rfl
theorem bindC_other {kindOf : Str → Option NameKind} {x : Str} : ∀ {bs : List (Str × Value)} {m : Str → Option Value}, (∀ y ∈ bs, y.1 ≠ x) → bindC kindOf bs m x = m x
  | [], _, _ => rfl
  | (n, v) :: r, m, h => by
    unfold bindC
    rw [bindC_other fun y hy => h y (.tail _ hy)]
    split
    · rfl
    · exact if_neg (Ne.symm (h _ (.head _)))
theorem bindL_get {kindOf : Str → Option NameKind} {x : Str} {v : Value} (hk : kindOf x = some .local) : ∀ {ps : List Str} {vs : List Value} {m : Str → Option Value} {i : Nat}, ps.Nodup → ps[i]? = some x → vs[i]? = some v →
    bindL kindOf (ps.zip vs) m x = some v
  | [], _, _, _, _, h, _ => by simp at h
  | _ :: _, [], _, _, _, _, h => by simp at h
  | n :: ps, w :: vs, m, 0, nd, h1, h2 => by
    simp at h1 h2; subst h1; subst h2
    rw [List.zip_cons_cons]
    unfold bindL
    rw [bindL_other fun y hy e => ?_, if_pos hk]
    · simp
    · have := (List.of_mem_zip hy).1
      rw [e] at this
      exact (List.nodup_cons.mp nd).1 this
  | n :: ps, w :: vs, m, i + 1, nd, h1, h2 => by
    rw [List.zip_cons_cons]
    unfold bindL
    exact bindL_get hk (List.nodup_cons.mp nd).2 (by simpa using h1) (by simpa using h2)
theorem bindC_get {kindOf : Str → Option NameKind} {x : Str} {v : Value} (hk : kindOf x = some .cell) : ∀ {ps : List Str} {vs : List Value} {m : Str → Option Value} {i : Nat}, ps.Nodup → ps[i]? = some x → vs[i]? = some v →
    bindC kindOf (ps.zip vs) m x = some v
  | [], _, _, _, _, h, _ => by simp at h
  | _ :: _, [], _, _, _, _, h => by simp at h
  | n :: ps, w :: vs, m, 0, nd, h1, h2 => by
    simp at h1 h2; subst h1; subst h2
    rw [List.zip_cons_cons]
    unfold bindC
    rw [bindC_other fun y hy e => ?_, if_neg (by rw [hk]; decide)]
    · simp
    · have := (List.of_mem_zip hy).1
      rw [e] at this
      exact (List.nodup_cons.mp nd).1 this
  | n :: ps, w :: vs, m, i + 1, nd, h1, h2 => by
    rw [List.zip_cons_cons]
    unfold bindC
    exact bindC_get hk (List.nodup_cons.mp nd).2 (by simpa using h1) (by simpa using h2)

theorem cellsFrom_acc {x : Str} : ∀ (l : List (Str × NameKind)) (n : Nat) (acc : List (Str × Addr)), (acc.lookup x).isSome = true → ((cellsFrom n l acc).lookup x).isSome = true
  | [], _, _, h => h
  | (y, k) :: l, n, acc, h => by
    unfold cellsFrom
    split
    · refine cellsFrom_acc l _ _ ?_
      rw [List.lookup_cons]
      cases x == y
      · exact h
      · rfl
    · exact cellsFrom_acc l _ _ h
theorem cellsFrom_some {x : Str} : ∀ (l : List (Str × NameKind)) (n : Nat) (acc : List (Str × Addr)), l.lookup x = some .cell → ((cellsFrom n l acc).lookup x).isSome = true
  | [], _, _, h => by cases h
  | (y, k) :: l, n, acc, h => by
    rw [List.lookup_cons] at h
    unfold cellsFrom
    cases hxy : x == y with
    | true =>
      rw [hxy] at h
      cases h
      rw [if_pos (by decide)]
      refine cellsFrom_acc l _ _ ?_
      rw [List.lookup_cons, hxy]; rfl
    | false =>
      rw [hxy] at h
      split
      · exact cellsFrom_some l _ _ h
      · exact cellsFrom_some l _ _ h

theorem CodeRec.top {cd : Value} {qn : Str} {h : Heap} (G0 : Gd S S.hT) (G : Gd S h) (r : S.hT.CodeRec cd qn) : h.CodeRec cd qn := by
  obtain ⟨c, o, vs, t, e1, e2, e3, e4⟩ := r
  refine ⟨c, o, vs, t, e1, G.top c o (fun hc => ?_) e2, e3, e4⟩
  obtain ⟨tb, ht, rfl⟩ := List.mem_map.mp hc
  obtain ⟨ps, e5, e6⟩ := G0.tab tb ht
  rw [e2] at e5; cases e5
  cases e3
  rcases e6 with rfl | ⟨c', rfl, _⟩
  · simp at e4
  · simp [rawInt] at e4

theorem fn_ok0 {a : Addr} {o : Obj} {fd : FuncData} {body : List Stmt} {params rest : List Str} {ps : List PV} (W : S.Ok mg mb) (ho : S.hT.get? a = some o) (hdata : o.data = .func fd) (hcd : S.hT.CodeRec fd.code fd.qualname)
    (hbody : fd.body = .stmts body) (hclo : fd.closure = []) (hg : fd.globals = mainGlobals) (hb : fd.builtins = builtinsNs) (hk : fd.scope.kind = .function)
    (hco : fd.scope.isCoroutine = false) (hgen : fd.scope.isGenerator = false)
    (hbind : ∀ vs, vs.length = params.length → bindArgs fd ⟨vs, []⟩ = pure (params.zip vs)) (hps : ps.length = params.length) (hpk : params.all (locCell fd.scope) = true) (nd : (params ++ rest).Nodup)
    (h : ∀ (A : Around) (env : Env) (base : Heap) (s : Shared) (Q : Flow → Shared → Prop), Room d A → Fm S fd.scope (params ++ rest) base env s.heap (ps.map (fun p => some (p, Own.imm)) ++ List.replicate rest.length none) (fun _ => 0) →
      env.code = fd.code → env.qual = fd.qualname ++ ".<locals>." →
      (∀ f s', OutIs S fd.scope (params ++ rest) b base env (ps.map (fun p => some (p, Own.imm)) ++ List.replicate rest.length none) (fun _ => 0) s f s' (.ret p) → Q f s') → wpAny (model S.prog S.w) A (execs body env) Q No s) : CallOk S b (d + 1) (.ref a) ps p := by
  intro A s vs fp Q R G r hQ
  have hTB : a ∉ S.TB := fun hm => by
    obtain ⟨x, e⟩ := tb_data W.gdT.tab hm
    rw [ho] at e; cases e; cases hdata
  refine wpAny_call ?_
  have lk : ∀ x ∈ params, fd.scope.names.lookup x = some .local ∨ fd.scope.names.lookup x = some .cell := fun x hx => locCell_or (List.all_eq_true.mp hpk x hx)
  refine codeAny_call_cells R.lt (G.top _ _ hTB ho) hdata (W.lim G) (CodeRec.top W.gdT G hcd) hbody (hbind vs (r.length.trans hps)) hclo (fun x hx => ?_) (fun s₁ I => ?_) hco hgen hk
  · rcases lk x.1 (List.of_mem_zip hx).1 with e | e
    · exact .inl e
    · exact .inr ⟨e, cellsFrom_some _ _ _ e⟩
  · generalize hen : callEnvC fd s.heap.objs.size a = env at I ⊢
    have eS : env.scope = fd.scope := by rw [← hen]; rfl
    have eL : env.locals = s.heap.objs.size := by rw [← hen]; rfl
    have eC : env.cells = cellsFrom (s.heap.objs.size + 1) fd.scope.names [] := by rw [← hen]; rfl
    have R' : Room d (A.deeper env) := ⟨R.hd, by have := R.depth; show A.depth + 1 + d < _; (first | lia | omega), by have := R.units; show A.units + 3 + 4 * d + 120 < _; (first | lia | omega)⟩
    have keep := I.toInCall.keep
    have cAbove : ∀ c, isCellOf env c → s.heap.get? c = none := fun c ⟨n, e⟩ => by
      cases hc : s.heap.get? c with
      | none => rfl
      | some o =>
        have h1 := Heap.lt_size hc
        have h2 := I.above n c (mem_of_lookup e)
        rw [eL] at h2
        exact absurd h1 (Nat.lt_asymm h2)
    have F : Fm S fd.scope (params ++ rest) s.heap env s₁.heap (ps.map (fun p => some (p, Own.imm)) ++ List.replicate rest.length none) (fun _ => 0) := by
      refine ⟨G.keeps keep, by rw [eS]; exact hk, fun x => .inl (by unfold Env.kindOf; rw [eS]), ?_, ?_, fun b o e => ?_, fun b o e => ⟨o, keep b o e⟩, ?_, ⟨_, I.toInCall.ns⟩, fun c hc => ?_, fun n n' c e e' => ?_, fun x e => ?_, ?_, ?_⟩
      · rw [← hen]; exact hg
      · rw [← hen]; exact hb
      · exact TabOk.alive G G.top b o e
      · rw [eL]; exact fresh_size _
      · obtain ⟨n, e⟩ := id hc
        exact ⟨cAbove c hc, _, I.cell n c e⟩
      · exact name_of_addr I.apart (mem_of_lookup e) (mem_of_lookup e')
      · rw [eC]; exact cellsFrom_some _ _ _ e
      · simp [hps]
      · intro i x p k ex e
        have hi : i < ps.length := by
          rcases Nat.lt_or_ge i ps.length with h | h
          · exact h
          · rw [List.getElem?_append_right (by simpa using h)] at e
            have := List.mem_of_getElem? e
            rw [List.mem_replicate] at this
            cases this.2
        rw [List.getElem?_append_left (by simpa using hi), List.getElem?_map] at e
        have hi' : i < params.length := hps ▸ hi
        rw [List.getElem?_append_left hi'] at ex
        cases hp : ps[i]? with
        | none => rw [hp] at e; cases e
        | some p0 =>
        rw [hp] at e
        cases e
        obtain ⟨v, f, ev, rv, hf⟩ := r.get hp
        have hx : x ∈ params := List.mem_of_getElem? ex
        have ndp : params.Nodup := (List.nodup_append.mp nd).1
        refine ⟨v, f, ?_, rv.mono fun y hy o e => keep y o e, fun y hy => ?_, fun hk => absurd rfl hk, fun j q k' e' hk' _ => ?_⟩
        · rcases lk x hx with e | e
          · have kx : env.kindOf x = some .local := by unfold Env.kindOf; rw [eS]; exact e
            exact .inl ⟨kx, _, I.toInCall.ns, bindL_get kx ndp ex ev⟩
          · have kx : env.kindOf x = some .cell := by unfold Env.kindOf; rw [eS]; exact e
            have hc := cellsFrom_some _ (s.heap.objs.size + 1) [] e
            rw [← eC] at hc
            obtain ⟨c, hc⟩ := Option.isSome_iff_exists.mp hc
            exact .inr ⟨.inl kx, c, hc, by have := I.cell x c hc; rwa [bindC_get kx ndp ex ev] at this⟩
        · obtain ⟨_, o, ho⟩ := rv.lives y hy
          exact ⟨fun e => (by rw [e, eL, fresh_size] at ho; cases ho), fun hc => (by rw [cAbove y hc] at ho; cases ho)⟩
        · exfalso
          rcases Nat.lt_or_ge j ps.length with h | h
          · rw [List.getElem?_append_left (by simpa using h), List.getElem?_map] at e'
            cases hpj : ps[j]? with
            | none => rw [hpj] at e'; cases e'
            | some z => rw [hpj] at e'; cases e'; exact hk' rfl
          · rw [List.getElem?_append_right (by simpa using h)] at e'
            have := List.mem_of_getElem? e'
            rw [List.mem_replicate] at this
            cases this.2
    refine wpAny_mono (E := No) (h (A.deeper env) env s.heap s₁ (fun f s' => Q (match f with | .ret v => v | _ => .none) s') R' F (by rw [← hen]; rfl) (by rw [← hen]; rfl) fun f s2 oi => ?_) (fun _ _ h => h) fun _ _ h => h.elim
    obtain ⟨v, fp2, rfl, st, g2, r2, hf2⟩ := oi
    refine hQ v s2 fp2 ?_ r2 hf2
    obtain ⟨h1, tk1, e1⟩ := I.toInCall.same
    obtain ⟨h2, tk2, e2⟩ := st.same
    subst e1; subst e2
    refine ⟨h2, tk2, rfl, fun y o _ hb e => ?_, g2⟩
    refine st.keep y o ?_ hb (keep y o e)
    rintro (ho | ho | ⟨i, p, ei, _⟩)
    · rw [ho, eL, fresh_size] at e; cases e
    · rw [cAbove y ho] at e; cases e
    · rcases Nat.lt_or_ge i ps.length with h | h
      · rw [List.getElem?_append_left (by simpa using h), List.getElem?_map] at ei
        cases hpj : ps[i]? with
        | none => rw [hpj] at ei; cases ei
        | some z => rw [hpj] at ei; cases ei
      · rw [List.getElem?_append_right (by simpa using h)] at ei
        have := List.mem_of_getElem? ei
        rw [List.mem_replicate] at this
        cases this.2

theorem fn_ok {a : Addr} {o : Obj} {fd : FuncData} {body : List Stmt} {params rest : List Str} {ps : List PV} (W : S.Ok mg mb) (ho : S.hT.get? a = some o) (hdata : o.data = .func fd) (hcd : S.hT.CodeRec fd.code fd.qualname)
    (hbody : fd.body = .stmts body) (hclo : fd.closure = []) (hg : fd.globals = mainGlobals) (hb : fd.builtins = builtinsNs) (hk : fd.scope.kind = .function)
    (hco : fd.scope.isCoroutine = false) (hgen : fd.scope.isGenerator = false)
    (hbind : ∀ vs, vs.length = params.length → bindArgs fd ⟨vs, []⟩ = pure (params.zip vs)) (hps : ps.length = params.length) (hpk : params.all (locCell fd.scope) = true) (nd : (params ++ rest).Nodup)
    (h : Sx S fd.scope (params ++ rest) b d (ps.map (fun p => some (p, Own.imm)) ++ List.replicate rest.length none) body (fun o => o = .ret p)) : CallOk S b (d + 1) (.ref a) ps p :=
  fn_ok0 W ho hdata hcd hbody hclo hg hb hk hco hgen hbind hps hpk nd fun A env base s Q R F _ _ hQ => h A base env s _ Q R F fun o f s' ho oi => hQ f s' (ho ▸ oi)

theorem vec1 {α : Type} {P : List α → Prop} (h : ∀ a, P [a]) : ∀ vs : List α, vs.length = 1 → P vs := fun vs hv => by
  rcases vs with _ | ⟨a, _ | ⟨c, r⟩⟩
  · cases hv
  · exact h a
  · cases hv
theorem vec2 {α : Type} {P : List α → Prop} (h : ∀ a c, P [a, c]) : ∀ vs : List α, vs.length = 2 → P vs := fun vs hv => by
  rcases vs with _ | ⟨a, r⟩
  · cases hv
  · exact vec1 (P := fun r => P (a :: r)) (h a) r (Nat.succ.inj hv)
theorem vec3 {α : Type} {P : List α → Prop} (h : ∀ a c e, P [a, c, e]) : ∀ vs : List α, vs.length = 3 → P vs := fun vs hv => by
  rcases vs with _ | ⟨a, r⟩
  · cases hv
  · exact vec2 (P := fun r => P (a :: r)) (h a) r (Nat.succ.inj hv)
end
end Mine
open PySem PySem.Calls PyProof.Rows PySem.W
set_option Elab.async false
set_option autoImplicit false
namespace Mine
open PySem.Sre (M)

noncomputable def c1 : Array Nat := #[14, 4, 0, 1, 1, 6, 1, 16, 46, 1]
noncomputable def c2 : Array Nat := #[14, 9, 4, 1, 2, 16, 10, 16, 13, 0, 7, 7, 16, 13, 16, 10, 15, 18, 5, 16, 10, 15, 13, 11, 16, 13, 5, 5, 0, 16, 10, 1, 15, 2, 0, 1]

noncomputable def mk (c t : Array Nat) (pc s : Nat) (h : Nat) (first : Bool) (sn : Sre.Seen) : M :=
  { code := c, text := t, lim := t.size, start := s, lastStart := t.size, pc := pc, pos := s, handed := h, outermost := first, marks := #[],
    frames := [{ wait := .nextStart, pc := pc, pos := s, outermost := first }], weight := 1, seen := sn }

theorem runFor_add : ∀ (a b : Nat) (m : M), M.runFor (a + b) m = M.runFor b (M.runFor a m)
  | 0, b, m => by rw [Nat.zero_add]; rfl
  | a + 1, b, m => by
    rw [Nat.add_right_comm]
    show (if m.outcome.isSome then m else M.runFor (a + b) m.step) = M.runFor b (if m.outcome.isSome then m else M.runFor a m.step)
    split
    · rename_i h
      cases b with
      | zero => rfl
      | succ b => show m = (if m.outcome.isSome then m else _); rw [if_pos h]
    · exact runFor_add a b _

theorem runFor_succ {n : Nat} {m m' : M} (h : m.outcome = none) (e : m.step = m') : M.runFor (n + 1) m = M.runFor n m' := by
  show (if m.outcome.isSome then m else M.runFor n m.step) = _
  rw [h, e]; rfl

noncomputable def EndsIn (n : Nat) (m : M) (r : Option (Nat × Nat)) : Prop := ∃ k, k ≤ n ∧ match r with
  | some (s, e) => (M.runFor k m).outcome = some .matched ∧ (M.runFor k m).start = s ∧ (M.runFor k m).handed = e
  | none => (M.runFor k m).outcome = some .failed

theorem c1_at (t : Array Nat) (s h : Nat) (f : Bool) (sn : Sre.Seen) : M.step (mk c1 t 5 s h f sn) =
    (if (s == 0 || t.getD (s - 1) 0 == 10) = true then { mk c1 t 5 s h f ((sn.add 6).add (43 + 1)) with pc := 7 } else { mk c1 t 5 s h f ((sn.add 6).add (43 + 1)) with answer := some false }) := by
  rfl
theorem step_exec (m : M) (h1 : m.outcome = none) (h2 : m.answer = none) (h3 : m.pc < m.code.size) : m.step = m.exec := by
  unfold M.step
  rw [h1, h2]
  simp only [Option.isSome_none, Bool.false_eq_true, if_false]
  rw [if_pos h3]
theorem exec_lit_no (m : M) (sn : Sre.Seen) (hop : Sre.ops[m.word 0]? = some .LITERAL) (hl : m.pos < m.lim) (ha : Sre.accepts m.code m.pc (m.text.getD m.pos 0) (m.seen.add (m.word 0)) = .ok (false, sn)) :
    m.exec = { m with seen := sn, answer := some false } := by
  unfold M.exec
  rw [hop]
  simp only
  rw [if_neg (by (first | lia | omega)), ha]
  rfl
theorem exec_lit_yes (m : M) (sn : Sre.Seen) (hop : Sre.ops[m.word 0]? = some .LITERAL) (hl : m.pos < m.lim) (ha : Sre.accepts m.code m.pc (m.text.getD m.pos 0) (m.seen.add (m.word 0)) = .ok (true, sn)) :
    m.exec = { m with seen := sn, pc := m.pc + Sre.itemWidth m.code m.pc, pos := m.pos + 1 } := by
  unfold M.exec
  rw [hop]
  simp only
  rw [if_neg (by (first | lia | omega)), ha]
theorem exec_lit_end (m : M) (hop : Sre.ops[m.word 0]? = some .LITERAL) (hl : m.lim ≤ m.pos) :
    m.exec = { m with seen := m.seen.add (m.word 0), answer := some false } := by
  unfold M.exec
  rw [hop]
  simp only
  rw [if_pos (by (first | lia | omega))]
  rfl
theorem c1_lit (t : Array Nat) (s h : Nat) (f : Bool) (sn : Sre.Seen) (hs : s < t.size) : M.step { mk c1 t 5 s h f sn with pc := 7 } =
    (if (t.getD s 0 == 46) = true then { mk c1 t 5 s h f (sn.add 16) with pc := 9, pos := s + 1 } else { mk c1 t 5 s h f (sn.add 16) with answer := some false, pc := 7 }) := by
  rw [step_exec _ rfl rfl (by decide : 7 < c1.size)]
  cases hb : (t.getD s 0 == 46) with
  | false => rw [exec_lit_no _ (sn.add 16) rfl hs (by show Except.ok (t.getD s 0 == 46, sn.add 16) = _; rw [hb])]; rfl
  | true => rw [exec_lit_yes _ (sn.add 16) rfl hs (by show Except.ok (t.getD s 0 == 46, sn.add 16) = _; rw [hb])]; rfl
theorem c1_ok (t : Array Nat) (s h : Nat) (f : Bool) (sn : Sre.Seen) : M.step { mk c1 t 5 s h f sn with pc := 9, pos := s + 1 } =
    { mk c1 t 5 s h f (sn.add 1) with pc := 9, pos := s + 1, handed := s + 1, answer := some true } := by
  show (if (f && (false || false)) = true then _ else _) = _
  rw [Bool.or_false, Bool.and_false]; rfl
theorem c_no (c t : Array Nat) (pc pc' s h : Nat) (f : Bool) (sn : Sre.Seen) (hc : Sre.M.hasFirstSet (mk c t pc s h f sn) = false) (hs : s < t.size) :
    M.step { mk c t pc s h f sn with answer := some false, pc := pc' } = mk c t pc (s + 1) (s + 1) false sn := by
  show (if s < t.size then _ else _) = _
  rw [if_pos hs]
  show (if (!(Sre.M.hasFirstSet (mk c t pc s h f sn))) = true then _ else _) = _
  rw [hc]; rfl
noncomputable def Hit1 (t : Array Nat) (s : Nat) : Prop := (s = 0 ∨ t.getD (s - 1) 0 = 10) ∧ t.getD s 0 = 46

theorem c1_skip (t : Array Nat) (s h : Nat) (f : Bool) (sn : Sre.Seen) (hs : s < t.size) (hn : ¬ Hit1 t s) :
    ∃ k sn', k ≤ 3 ∧ M.runFor k (mk c1 t 5 s h f sn) = mk c1 t 5 (s + 1) (s + 1) false sn' := by
  by_cases h1 : s = 0 ∨ t.getD (s - 1) 0 = 10
  · have h2 : ¬ t.getD s 0 = 46 := fun e => hn ⟨h1, e⟩
    have e1 : (s == 0 || t.getD (s - 1) 0 == 10) = true := by simpa using h1
    have e2 : (t.getD s 0 == 46) = false := by simpa using h2
    have a1 := c1_at t s h f sn
    rw [if_pos e1] at a1
    have a2 := c1_lit t s h f ((sn.add 6).add (43 + 1)) hs
    rw [if_neg (by rw [e2]; decide)] at a2
    exact ⟨3, ((sn.add 6).add (43 + 1)).add 16, Nat.le_refl _, (runFor_succ (n := 2) rfl a1).trans ((runFor_succ (n := 1) rfl a2).trans (runFor_succ (n := 0) rfl (c_no c1 t 5 7 s h f _ rfl hs)))⟩
  · have e1 : ¬ (s == 0 || t.getD (s - 1) 0 == 10) = true := by simpa using h1
    have a1 := c1_at t s h f sn
    rw [if_neg e1] at a1
    exact ⟨2, (sn.add 6).add (43 + 1), by (first | lia | omega), (runFor_succ (n := 1) rfl a1).trans (runFor_succ (n := 0) rfl (c_no c1 t 5 5 s h f _ rfl hs))⟩

theorem c1_hit (t : Array Nat) (s h : Nat) (f : Bool) (sn : Sre.Seen) (hs : s < t.size) (hn : Hit1 t s) : EndsIn 5 (mk c1 t 5 s h f sn) (some (s, s + 1)) := by
  have e1 : (s == 0 || t.getD (s - 1) 0 == 10) = true := by simpa using hn.1
  have e2 : (t.getD s 0 == 46) = true := by simpa using hn.2
  have a1 := c1_at t s h f sn
  rw [if_pos e1] at a1
  have a2 := c1_lit t s h f ((sn.add 6).add (43 + 1)) hs
  rw [if_pos e2] at a2
  refine ⟨5, by decide, ?_⟩
  rw [runFor_succ rfl a1, runFor_succ rfl a2, runFor_succ rfl (c1_ok t s h f _)]
  exact ⟨rfl, rfl, rfl⟩

theorem c1_end (t : Array Nat) (h : Nat) (f : Bool) (sn : Sre.Seen) : EndsIn 5 (mk c1 t 5 t.size h f sn) none := by
  have nlt : ¬ t.size < t.size := Nat.lt_irrefl _
  have fin : ∀ pc' sn', M.runFor 2 { mk c1 t 5 t.size h f sn' with answer := some false, pc := pc' } = { mk c1 t 5 t.size h f sn' with answer := some false, frames := [], weight := 0, outcome := some .failed } := fun pc' sn' => by
    have e : M.step { mk c1 t 5 t.size h f sn' with answer := some false, pc := pc' } = { mk c1 t 5 t.size h f sn' with answer := some false, frames := [], weight := 0 } := by
      show (if t.size < t.size then _ else _) = _
      rw [if_neg nlt]; rfl
    rw [runFor_succ rfl e]; rfl
  have a1 := c1_at t t.size h f sn
  by_cases e1 : (t.size == 0 || t.getD (t.size - 1) 0 == 10) = true
  · rw [if_pos e1] at a1
    have a2 : M.step { mk c1 t 5 t.size h f ((sn.add 6).add (43 + 1)) with pc := 7 } = { mk c1 t 5 t.size h f (((sn.add 6).add (43 + 1)).add 16) with answer := some false, pc := 7 } := by
      rw [step_exec _ rfl rfl (by decide : 7 < c1.size), exec_lit_end _ rfl (Nat.le_refl _)]; rfl
    refine ⟨4, by decide, ?_⟩
    show (M.runFor (2 + 1 + 1) _).outcome = _
    rw [runFor_succ rfl a1, runFor_succ rfl a2, fin]
  · rw [if_neg e1] at a1
    refine ⟨3, by decide, ?_⟩
    show (M.runFor (2 + 1) _).outcome = _
    rw [runFor_succ rfl a1]
    exact congrArg M.outcome (fin 5 _)

theorem EndsIn.after {n k : Nat} {m m' : M} {r : Option (Nat × Nat)} (h : EndsIn n m' r) (e : M.runFor k m = m') : EndsIn (n + k) m r := by
  obtain ⟨j, hj, h⟩ := h
  refine ⟨k + j, by (first | lia | omega), ?_⟩
  rw [runFor_add, e]; exact h
theorem EndsIn.mono {n n' : Nat} {m : M} {r : Option (Nat × Nat)} (h : EndsIn n m r) (hn : n ≤ n') : EndsIn n' m r := let ⟨k, a, b⟩ := h; ⟨k, by (first | lia | omega), b⟩
noncomputable def Found (hit : Nat → Prop) (len : Nat → Nat) (size pos : Nat) : Option (Nat × Nat) → Prop
  | some (s, e) => pos ≤ s ∧ s < size ∧ (∀ i, pos ≤ i → i < s → ¬ hit i) ∧ hit s ∧ e = s + len s
  | none => ∀ i, pos ≤ i → i < size → ¬ hit i

theorem c1_find (t : Array Nat) : ∀ (n s h : Nat) (f : Bool) (sn : Sre.Seen) (r : Option (Nat × Nat)), s + n = t.size → Found (Hit1 t) (fun _ => 1) t.size s r → EndsIn (3 * n + 5) (mk c1 t 5 s h f sn) r
  | 0, s, h, f, sn, r, e, hf => by
    have : s = t.size := by (first | lia | omega)
    subst this
    cases r with
    | none => exact (c1_end t h f sn).mono (by (first | lia | omega))
    | some x => obtain ⟨h1, h2, _⟩ := hf; (first | lia | omega)
  | n + 1, s, h, f, sn, r, e, hf => by
    have hs : s < t.size := by (first | lia | omega)
    by_cases hh : Hit1 t s
    · cases r with
      | none => exact absurd hh (hf s (Nat.le_refl _) hs)
      | some x =>
        obtain ⟨a, b⟩ := x
        obtain ⟨h1, h2, h3, h4, h5⟩ := hf
        have : a = s := by
          rcases Nat.lt_or_eq_of_le h1 with h | h
          · exact absurd hh (h3 s (Nat.le_refl _) h)
          · exact h.symm
        subst this; subst h5
        exact (c1_hit t a h f sn hs hh).mono (by (first | lia | omega))
    · obtain ⟨k, sn', hk, e'⟩ := c1_skip t s h f sn hs hh
      refine ((c1_find t n (s + 1) (s + 1) false sn' r (by (first | lia | omega)) ?_).after e').mono (by (first | lia | omega))
      cases r with
      | none => exact fun i h1 h2 => hf i (by (first | lia | omega)) h2
      | some x =>
        obtain ⟨a, b⟩ := x
        obtain ⟨h1, h2, h3, h4, h5⟩ := hf
        have : s ≠ a := fun e => hh (e ▸ h4)
        exact ⟨by (first | lia | omega), h2, fun i h1 h2 => h3 i (by (first | lia | omega)) h2, h4, h5⟩

theorem c1_search (t : Array Nat) (pos : Nat) (r : Option (Nat × Nat)) (hp : pos ≤ t.size) (hf : Found (Hit1 t) (fun _ => 1) t.size pos r) : EndsIn (3 * t.size + 5) (Sre.forSearch c1 t 0 pos t.size false) r := by
  by_cases h : pos < t.size
  · have e : Sre.forSearch c1 t 0 pos t.size false = mk c1 t 5 pos pos true (({} : Sre.Seen).add 14) := by
      have hc : ¬ (pos > t.size ∨ t.size - pos < 1) := by (first | lia | omega)
      show (if pos > t.size || decide (t.size - pos < 1) then _ else _) = _
      rw [if_neg (by simpa using hc)]
      rfl
    rw [e]
    exact (c1_find t (t.size - pos) pos pos true _ r (by (first | lia | omega)) hf).mono (by (first | lia | omega))
  · have e : pos = t.size := by (first | lia | omega)
    subst e
    cases r with
    | some x => obtain ⟨h1, h2, _⟩ := hf; (first | lia | omega)
    | none =>
      refine ⟨1, by (first | lia | omega), ?_⟩
      have e : (Sre.forSearch c1 t 0 t.size t.size false) = { mk c1 t 5 t.size t.size true (({} : Sre.Seen).add 14) with lastStart := 0, frames := [], weight := 0, answer := some false } := by
        show (if (decide (t.size > t.size) || decide (t.size - t.size < 1)) = true then _ else _) = _
        rw [if_pos (by simp)]
        rfl
      rw [e]; rfl
end Mine
open PySem PySem.Calls PyProof.Rows PySem.W
set_option Elab.async false
set_option autoImplicit false
namespace Mine
open PySem.Sre (M)

noncomputable def mm (t : Array Nat) (s pc pos h : Nat) (o : Bool) (fr : List Sre.Frame) (wt : Nat) (ans : Option Bool) (sn : Sre.Seen) : M :=
  { code := c2, text := t, lim := t.size, start := s, lastStart := t.size, pc := pc, pos := pos, handed := h, outermost := o, marks := #[], frames := fr, weight := wt, answer := ans, seen := sn }

noncomputable def f0 (s : Nat) : Sre.Frame := { wait := .nextStart, pc := 10, pos := s, outermost := true }
noncomputable def fb (pc s : Nat) : Sre.Frame := { wait := .nextBranch, pc := pc, pos := s, outermost := true, kept := { lastmark := -1, lastindex := -1, whole := false, marks := #[] } }
noncomputable def fn (s : Nat) : Sre.Frame := { wait := .lookNot, pc := 26, pos := s, outermost := true, kept := { lastmark := -1, lastindex := -1, whole := false, marks := #[] } }

section
variable (t : Array Nat) (s h : Nat) (sn : Sre.Seen)

theorem b0 : M.step (mm t s 10 s h true [f0 s] 1 none sn) = mm t s 12 s s true [fb 11 s, f0 s] 2 none (sn.add 7) := rfl
theorem lit_yes {pc pos h : Nat} {o : Bool} {fr : List Sre.Frame} {wt c : Nat} (hpc : pc < c2.size) (hop : Sre.ops[c2.getD (pc + 0) 0]? = some .LITERAL) (hp : pos < t.size) (hc : t.getD pos 0 = c)
    (ha : Sre.accepts c2 pc c (sn.add (c2.getD (pc + 0) 0)) = .ok (true, sn.add (c2.getD (pc + 0) 0))) (hw : Sre.itemWidth c2 pc = 2) :
    M.step (mm t s pc pos h o fr wt none sn) = mm t s (pc + 2) (pos + 1) h o fr wt none (sn.add (c2.getD (pc + 0) 0)) := by
  rw [step_exec _ rfl rfl hpc, exec_lit_yes (mm t s pc pos h o fr wt none sn) (sn.add (c2.getD (pc + 0) 0)) hop hp (by show Sre.accepts c2 pc (t.getD pos 0) _ = _; rw [hc]; exact ha)]
  show ({ code := c2, text := t, lim := t.size, start := s, lastStart := t.size, pc := pc + Sre.itemWidth c2 pc, pos := pos + 1, handed := h, outermost := o, marks := #[], frames := fr, weight := wt, answer := none, seen := sn.add (c2.getD (pc + 0) 0) } : M) = _
  rw [hw]; rfl
theorem lit_no {pc pos h : Nat} {o : Bool} {fr : List Sre.Frame} {wt : Nat} (hpc : pc < c2.size) (hop : Sre.ops[c2.getD (pc + 0) 0]? = some .LITERAL)
    (ha : pos < t.size → Sre.accepts c2 pc (t.getD pos 0) (sn.add (c2.getD (pc + 0) 0)) = .ok (false, sn.add (c2.getD (pc + 0) 0))) :
    M.step (mm t s pc pos h o fr wt none sn) = mm t s pc pos h o fr wt (some false) (sn.add (c2.getD (pc + 0) 0)) := by
  by_cases hp : pos < t.size
  · rw [step_exec _ rfl rfl hpc, exec_lit_no (mm t s pc pos h o fr wt none sn) (sn.add (c2.getD (pc + 0) 0)) hop hp (ha hp)]; rfl
  · rw [step_exec _ rfl rfl hpc, exec_lit_end (mm t s pc pos h o fr wt none sn) hop (by show t.size ≤ pos; (first | lia | omega))]; rfl
theorem jump {pc pos h to : Nat} {o : Bool} {fr : List Sre.Frame} {wt : Nat} (hpc : pc < c2.size) (hop : Sre.ops[c2.getD (pc + 0) 0]? = some .JUMP) (ht : pc + 1 + c2.getD (pc + 1) 0 = to) :
    M.step (mm t s pc pos h o fr wt none sn) = mm t s to pos h o fr wt none (sn.add (c2.getD (pc + 0) 0)) := by
  rw [step_exec _ rfl rfl hpc]
  unfold M.exec
  rw [show Sre.ops[M.word (mm t s pc pos h o fr wt none sn) 0]? = some .JUMP from hop]
  subst ht; rfl
theorem succ35 {pos h : Nat} {fr : List Sre.Frame} {wt : Nat} : M.step (mm t s 35 pos h true fr wt none sn) = mm t s 35 pos pos true fr wt (some true) (sn.add 1) := rfl
theorem done_yes {pc s' pos h : Nat} : (M.runFor 3 (mm t s pc pos h true [fb s' s, f0 s] 2 (some true) sn)).outcome = some .matched ∧ (M.runFor 3 (mm t s pc pos h true [fb s' s, f0 s] 2 (some true) sn)).start = s ∧ (M.runFor 3 (mm t s pc pos h true [fb s' s, f0 s] 2 (some true) sn)).handed = h := ⟨rfl, rfl, rfl⟩
theorem b1 {pc pos h : Nat} : M.step (mm t s pc pos h true [fb 11 s, f0 s] 2 (some false) sn) = mm t s 19 s s true [fb 18 s, f0 s] 2 none sn := rfl
theorem b2 {pc pos h : Nat} : M.step (mm t s pc pos h true [fb 18 s, f0 s] 2 (some false) sn) = mm t s 24 s s true [fb 23 s, f0 s] 2 none sn := rfl
theorem an {pos h : Nat} : M.step (mm t s 26 pos h true [fb 23 s, f0 s] 2 none sn) = mm t s 29 pos pos false [fn pos, fb 23 s, f0 s] 3 none (sn.add 5) := by
  rw [step_exec _ rfl rfl (by decide : 26 < c2.size)]
  unfold M.exec
  show (if pos < 0 then _ else _) = _
  rw [if_neg (Nat.not_lt_zero _)]
  rfl
theorem an_no {pc pos pos' h : Nat} : M.step (mm t s pc pos' h false [fn pos, fb 23 s, f0 s] 3 (some false) sn) = mm t s 32 pos h true [fb 23 s, f0 s] 2 none sn := rfl

noncomputable def Hit2 (t : Array Nat) (s : Nat) : Prop := t.getD s 0 = 10 ∨ t.getD s 0 = 13
open Classical in
noncomputable def len2 (t : Array Nat) (s : Nat) : Nat := if t.getD s 0 = 13 ∧ s + 1 < t.size ∧ t.getD (s + 1) 0 = 10 then 2 else 1

theorem acc13 {pc : Nat} {c : Nat} {sn : Sre.Seen} (h : pc = 12 ∨ pc = 24) : Sre.accepts c2 pc c sn = .ok (c == 13, sn) := by
  rcases h with rfl | rfl <;> rfl
theorem acc10 {pc : Nat} {c : Nat} {sn : Sre.Seen} (h : pc = 14 ∨ pc = 19 ∨ pc = 29) : Sre.accepts c2 pc c sn = .ok (c == 10, sn) := by
  rcases h with rfl | rfl | rfl <;> rfl

theorem c2_hit (hs : s < t.size) (hh : Hit2 t s) : EndsIn 20 (mm t s 10 s h true [f0 s] 1 none sn) (some (s, s + len2 t s)) := by
  by_cases h13 : t.getD s 0 = 13
  · by_cases h10 : s + 1 < t.size ∧ t.getD (s + 1) 0 = 10
    · have el : len2 t s = 2 := by unfold len2; rw [if_pos ⟨h13, h10⟩]
      rw [el]
      have a1 := lit_yes t s (sn.add 7) (pc := 12) (pos := s) (h := s) (o := true) (fr := [fb 11 s, f0 s]) (wt := 2) (by decide) rfl hs h13 rfl rfl
      have a2 := lit_yes t s ((sn.add 7).add (c2.getD (12 + 0) 0)) (pc := 14) (pos := s + 1) (h := s) (o := true) (fr := [fb 11 s, f0 s]) (wt := 2) (by decide) rfl h10.1 h10.2 rfl rfl
      have a3 := jump t s (((sn.add 7).add (c2.getD (12 + 0) 0)).add (c2.getD (14 + 0) 0)) (pc := 16) (pos := s + 2) (h := s) (to := 35) (o := true) (fr := [fb 11 s, f0 s]) (wt := 2) (by decide) rfl rfl
      refine ⟨3 + 1 + 1 + 1 + 1 + 1, by decide, ?_⟩
      simp only
      rw [runFor_succ rfl (b0 t s h sn), runFor_succ rfl a1, runFor_succ rfl a2, runFor_succ rfl a3, runFor_succ rfl (succ35 t s _)]
      exact done_yes t s _
    · have el : len2 t s = 1 := by unfold len2; rw [if_neg fun x => h10 x.2]
      rw [el]
      have n10 : (t.getD s 0 == 10) = false := by rw [h13]; decide
      have no : ∀ {sn : Sre.Seen} {pc : Nat}, (pc = 14 ∨ pc = 19 ∨ pc = 29) → s + 1 < t.size → Sre.accepts c2 pc (t.getD (s + 1) 0) sn = .ok (false, sn) := fun hpc hlt => by
        rw [acc10 hpc]
        have : (t.getD (s + 1) 0 == 10) = false := by simpa using fun e => h10 ⟨hlt, e⟩
        rw [this]
      have a1 := lit_yes t s (sn.add 7) (pc := 12) (pos := s) (h := s) (o := true) (fr := [fb 11 s, f0 s]) (wt := 2) (by decide) rfl hs h13 rfl rfl
      have a2 := lit_no t s ((sn.add 7).add (c2.getD (12 + 0) 0)) (pc := 14) (pos := s + 1) (h := s) (o := true) (fr := [fb 11 s, f0 s]) (wt := 2) (by decide) rfl (no (.inl rfl))
      generalize ((sn.add 7).add (c2.getD (12 + 0) 0)) = sn1 at a1 a2
      generalize (sn1.add (c2.getD (14 + 0) 0)) = sn2 at a2
      have a3 := lit_no t s sn2 (pc := 19) (pos := s) (h := s) (o := true) (fr := [fb 18 s, f0 s]) (wt := 2) (by decide) rfl (fun _ => by rw [acc10 (.inr (.inl rfl)), n10])
      generalize (sn2.add (c2.getD (19 + 0) 0)) = sn3 at a3
      have a4 := lit_yes t s sn3 (pc := 24) (pos := s) (h := s) (o := true) (fr := [fb 23 s, f0 s]) (wt := 2) (by decide) rfl hs h13 rfl rfl
      generalize (sn3.add (c2.getD (24 + 0) 0)) = sn4 at a4
      have a5 := lit_no t s (sn4.add 5) (pc := 29) (pos := s + 1) (h := s + 1) (o := false) (fr := [fn (s + 1), fb 23 s, f0 s]) (wt := 3) (by decide) rfl (no (.inr (.inr rfl)))
      generalize ((sn4.add 5).add (c2.getD (29 + 0) 0)) = sn5 at a5
      have a6 := jump t s sn5 (pc := 32) (pos := s + 1) (h := s + 1) (to := 35) (o := true) (fr := [fb 23 s, f0 s]) (wt := 2) (by decide) rfl rfl
      refine ⟨3 + 1 + 1 + 1 + 1 + 1 + 1 + 1 + 1 + 1 + 1 + 1 + 1, by decide, ?_⟩
      simp only
      rw [runFor_succ rfl (b0 t s h sn), runFor_succ rfl a1, runFor_succ rfl a2, runFor_succ rfl (b1 t s _), runFor_succ rfl a3, runFor_succ rfl (b2 t s _), runFor_succ rfl a4, runFor_succ rfl (an t s _), runFor_succ rfl a5,
        runFor_succ rfl (an_no t s _), runFor_succ rfl a6, runFor_succ rfl (succ35 t s _)]
      exact done_yes t s _
  · have h10 : t.getD s 0 = 10 := hh.resolve_right h13
    have el : len2 t s = 1 := by unfold len2; rw [if_neg fun x => h13 x.1]
    rw [el]
    have a1 := lit_no t s (sn.add 7) (pc := 12) (pos := s) (h := s) (o := true) (fr := [fb 11 s, f0 s]) (wt := 2) (by decide) rfl (fun _ => by rw [acc13 (.inl rfl), h10]; rfl)
    generalize ((sn.add 7).add (c2.getD (12 + 0) 0)) = sn1 at a1
    have a2 := lit_yes t s sn1 (pc := 19) (pos := s) (h := s) (o := true) (fr := [fb 18 s, f0 s]) (wt := 2) (by decide) rfl hs h10 rfl rfl
    generalize (sn1.add (c2.getD (19 + 0) 0)) = sn2 at a2
    have a3 := jump t s sn2 (pc := 21) (pos := s + 1) (h := s) (to := 35) (o := true) (fr := [fb 18 s, f0 s]) (wt := 2) (by decide) rfl rfl
    refine ⟨3 + 1 + 1 + 1 + 1 + 1 + 1, by decide, ?_⟩
    simp only
    rw [runFor_succ rfl (b0 t s h sn), runFor_succ rfl a1, runFor_succ rfl (b1 t s _), runFor_succ rfl a2, runFor_succ rfl a3, runFor_succ rfl (succ35 t s _)]
    exact done_yes t s _

theorem inSet2 (c : Nat) (sn : Sre.Seen) : ∃ sn', Sre.inSet c2 c c2.size 5 true sn = .ok (c == 10 || c == 13, sn') := by
  cases h1 : c == 10 with
  | true =>
    refine ⟨sn.add 16, ?_⟩
    show (if (c == 10) = true then _ else _) = _
    rw [if_pos h1]; rfl
  | false =>
    cases h2 : c == 13 with
    | true =>
      refine ⟨(sn.add 16).add 16, ?_⟩
      show (if (c == 10) = true then _ else (if (c == 13) = true then _ else _)) = _
      rw [if_neg (by rw [h1]; decide), if_pos h2]; rfl
    | false =>
      refine ⟨((sn.add 16).add 16).add 0, ?_⟩
      show (if (c == 10) = true then _ else (if (c == 13) = true then _ else _)) = _
      rw [if_neg (by rw [h1]; decide), if_neg (by rw [h2]; decide)]; rfl

theorem admitted2 (m : M) (hc : m.code = c2) (ht : m.text = t) (hl : m.lim = t.size) : ∀ (fuel s : Nat) (sn : Sre.Seen) (r : Option (Nat × Nat)), s + fuel = t.size + 1 → Found (Hit2 t) (len2 t) t.size s r →
    ∃ sn', Sre.M.admitted m fuel s sn = .ok (r.map (·.1), sn')
  | 0, s, sn, r, e, hf => by
    cases r with
    | none => exact ⟨sn, rfl⟩
    | some x => obtain ⟨h1, h2, _⟩ := hf; (first | lia | omega)
  | fuel + 1, s, sn, r, e, hf => by
    unfold Sre.M.admitted
    rw [hl]
    by_cases hs : s ≥ t.size
    · rw [if_pos hs]
      cases r with
      | none => exact ⟨sn, rfl⟩
      | some x => obtain ⟨h1, h2, _⟩ := hf; (first | lia | omega)
    · rw [if_neg hs]
      obtain ⟨sn', e'⟩ := inSet2 (t.getD s 0) sn
      rw [hc, ht, e']
      by_cases hh : Hit2 t s
      · have : (t.getD s 0 == 10 || t.getD s 0 == 13) = true := by simpa [Hit2] using hh
        rw [this]
        cases r with
        | none => exact absurd hh (hf s (Nat.le_refl _) (by (first | lia | omega)))
        | some x =>
          obtain ⟨a, b⟩ := x
          obtain ⟨h1, h2, h3, h4, h5⟩ := hf
          have : a = s := by
            rcases Nat.lt_or_eq_of_le h1 with h | h
            · exact absurd hh (h3 s (Nat.le_refl _) h)
            · exact h.symm
          subst this
          exact ⟨sn', rfl⟩
      · have : (t.getD s 0 == 10 || t.getD s 0 == 13) = false := by
          cases hb : (t.getD s 0 == 10 || t.getD s 0 == 13) with
          | false => rfl
          | true => exact absurd (by simpa [Hit2] using hb) hh
        rw [this]
        refine admitted2 m hc ht hl fuel (s + 1) sn' r (by (first | lia | omega)) ?_
        cases r with
        | none => exact fun i h1 h2 => hf i (by (first | lia | omega)) h2
        | some x =>
          obtain ⟨a, b⟩ := x
          obtain ⟨h1, h2, h3, h4, h5⟩ := hf
          have : s ≠ a := fun e => hh (e ▸ h4)
          exact ⟨by (first | lia | omega), h2, fun i h1 h2 => h3 i (by (first | lia | omega)) h2, h4, h5⟩

theorem attemptFrom_some (m : M) (a s : Nat) (f : Bool) (sn : Sre.Seen) (h1 : m.hasFirstSet = true) (h2 : Sre.M.admitted m (m.lim + 1 - s) s m.seen = .ok (some a, sn)) :
    m.attemptFrom s f = Sre.M.attemptAt { m with mustAdvance := false, seen := sn } a f := by
  unfold Sre.M.attemptFrom
  rw [h1, h2]; rfl
theorem attemptFrom_none (m : M) (s : Nat) (f : Bool) (sn : Sre.Seen) (h1 : m.hasFirstSet = true) (h2 : Sre.M.admitted m (m.lim + 1 - s) s m.seen = .ok (none, sn)) :
    m.attemptFrom s f = { m with seen := sn, answer := some false } := by
  unfold Sre.M.attemptFrom
  rw [h1, h2]; rfl

theorem c2_search (pos : Nat) (r : Option (Nat × Nat)) (hp : pos ≤ t.size) (hf : Found (Hit2 t) (len2 t) t.size pos r) : EndsIn 20 (Sre.forSearch c2 t 0 pos t.size false) r := by
  by_cases h : pos < t.size
  · have e : Sre.forSearch c2 t 0 pos t.size false = Sre.M.attemptFrom { mm t pos 10 pos pos true [] 0 none (({} : Sre.Seen).add 14) with lastStart := t.size } pos true := by
      have hc : ¬ (pos > t.size ∨ t.size - pos < 1) := by (first | lia | omega)
      show (if pos > t.size || decide (t.size - pos < 1) then _ else _) = _
      rw [if_neg (by simpa using hc)]
      rfl
    obtain ⟨sn', e'⟩ := admitted2 t { mm t pos 10 pos pos true [] 0 none (({} : Sre.Seen).add 14) with lastStart := t.size } rfl rfl rfl (t.size + 1 - pos) pos (({} : Sre.Seen).add 14) r (by (first | lia | omega)) hf
    rw [e]
    cases r with
    | none =>
      rw [attemptFrom_none _ _ _ sn' rfl e']
      exact ⟨1, by (first | lia | omega), rfl⟩
    | some x =>
      obtain ⟨a, b⟩ := x
      obtain ⟨h1, h2, h3, h4, h5⟩ := hf
      rw [attemptFrom_some _ a _ _ sn' rfl e', h5]
      exact c2_hit t a a sn' h2 h4
  · have e : pos = t.size := by (first | lia | omega)
    subst e
    cases r with
    | some x => obtain ⟨h1, h2, _⟩ := hf; (first | lia | omega)
    | none =>
      refine ⟨1, by (first | lia | omega), ?_⟩
      have e : (Sre.forSearch c2 t 0 t.size t.size false) = { mm t t.size 10 t.size t.size true [] 0 (some false) (({} : Sre.Seen).add 14) with lastStart := 0 } := by
        show (if (decide (t.size > t.size) || decide (t.size - t.size < 1)) = true then _ else _) = _
        rw [if_pos (by simp)]
        rfl
      rw [e]; rfl
end
end Mine
open PySem PySem.Calls PyProof.Rows PySem.W
set_option Elab.async false
set_option autoImplicit false
set_option maxRecDepth 100000
namespace Mine
open PySem.Sre (M)
theorem slot_pat_sub : Slot "re.Pattern" "sub" "re.Pattern.sub" :=
  .of (owner := "re.Pattern") (n := "sub") (by rw [typeLookup_type, builtinLookup_eq_fast]; kernel_rfl) (by decide +kernel) (by decide +kernel) (by decide +kernel)
    (by first | exact .inl (by decide +kernel) | exact .inr (by decide +kernel)) (by rw [isSubtype_type]; kernel_rfl)
theorem type_pat_sub : typeOf (.builtin "re.Pattern.sub") = pure (.type "method_descriptor") := by show builtinType _ = _; rw [builtinType_eq_fast]; kernel_rfl
theorem entry_pat_sub : entryFor table "re.Pattern.sub" = some Builtin.«re.Pattern.sub» := entryFor_of_tree (by kernel_rfl)
theorem entry_pat_loop : entryFor table "re.Pattern.sub.loop" = some Builtin.«re.Pattern.sub.loop» := entryFor_of_tree (by kernel_rfl)
theorem plainAttrs_pat : PlainAttrs "re.Pattern" :=
  ⟨⟨"object.__getattribute__", by rw [typeLookup_type, builtinLookup_eq_fast]; kernel_rfl, by decide +kernel⟩, by rw [typeLookup_type, builtinLookup_eq_fast]; kernel_rfl⟩
theorem args_pat_sub_3 (a b c : Value) : argsOk "re.Pattern.sub" ⟨[a, b, c], []⟩ := by
  unfold argsOk; kernel_rfl
section
variable {Md : Model} {A : Around} {E : Value → Shared → Prop} {s : Shared}

theorem reDrive_ok {r : Option (Nat × Nat)} {Q : M → Shared → Prop} : ∀ (turns n : Nat) (m : M), EndsIn n m r → n ≤ 4 * turns → 0 < turns →
    (∀ m', (match r with | some (s, e) => m'.outcome = some .matched ∧ m'.start = s ∧ m'.handed = e | none => m'.outcome = some .failed) → Q m' s) →
    wpAny Md A (Builtin.Re.reDrive turns m) Q E s
  | 0, _, _, _, _, h, _ => absurd h (Nat.lt_irrefl _)
  | turns + 1, n, m, h, hn, _, hQ => by
    obtain ⟨k, hk, hh⟩ := h
    have out : (M.runFor k m).outcome.isSome = true := by
      cases r with
      | none => simp only at hh; rw [hh]; rfl
      | some x => obtain ⟨a, b⟩ := x; simp only at hh; rw [hh.1]; rfl
    have stay : ∀ (j : Nat) (x : M), x.outcome.isSome = true → M.runFor j x = x := fun j x hx => by
      cases j with
      | zero => rfl
      | succ j => show (if x.outcome.isSome then x else _) = x; rw [if_pos hx]
    show wpAny Md A (if (M.runFor 4 m).outcome.isSome then pure (M.runFor 4 m) else do rule "sre.turn"; Builtin.Re.reDrive turns (M.runFor 4 m)) Q E s
    by_cases h4 : (M.runFor 4 m).outcome.isSome = true
    · rw [if_pos h4]
      refine wpAny_pure (hQ _ ?_)
      have : M.runFor 4 m = M.runFor k m := by
        rcases Nat.le_total 4 k with hle | hle
        · have e : k = 4 + (k - 4) := by (first | lia | omega)
          rw [e, runFor_add, stay _ _ h4]
        · have e : 4 = k + (4 - k) := by (first | lia | omega)
          rw [e, runFor_add, stay _ _ out]
      rw [this]; exact hh
    · rw [if_neg h4]
      have hk4 : 4 < k := by
        rcases Nat.lt_or_ge 4 k with h | h
        · exact h
        · exfalso
          have e : 4 = k + (4 - k) := by (first | lia | omega)
          rw [e, runFor_add, stay _ _ out] at h4
          exact h4 out
      refine wpAny_bind (wpAny_rule ?_)
      refine reDrive_ok turns (n - 4) _ ⟨k - 4, by (first | lia | omega), ?_⟩ (by (first | lia | omega)) (by (first | lia | omega)) hQ
      have e : k = 4 + (k - 4) := by (first | lia | omega)
      rw [e, runFor_add] at hh
      exact hh

theorem rules_ok {α : Type} {f : α → PUnit → Sem (ForInStep PUnit)} {Q : PUnit → Shared → Prop} (hf : ∀ i (Q' : ForInStep PUnit → Shared → Prop), Q' (.yield ⟨⟩) s → wpAny Md A (f i ⟨⟩) Q' E s) (h : Q ⟨⟩ s) : ∀ (l : List α), wpAny Md A (forIn l PUnit.unit f) Q E s
  | [] => by rw [List.forIn_nil]; exact wpAny_pure h
  | x :: l => by
    rw [List.forIn_cons]
    exact wpAny_bind (hf x _ (rules_ok hf h l))

theorem runToEnd_ok {m : M} {r : Option (Nat × Nat)} {n : Nat} {Q : Option M → Shared → Prop} (h : EndsIn n m r) (hn : n ≤ 4 * 2 ^ 64)
    (hQ : match r with | some (a, e) => ∀ m' : M, m'.start = a → m'.handed = e → Q (some m') s | none => Q none s) : wpAny Md A (Builtin.Re.reRunToEnd m) Q E s := by
  unfold Builtin.Re.reRunToEnd
  refine wpAny_bind (reDrive_ok (2 ^ 64) n m h hn (by decide) fun m' hm => ?_)
  refine wpAny_bind (rules_ok (fun i Q' hQ' => ?_) ?_ _)
  · split
    · exact wpAny_bind (wpAny_rule (wpAny_pure hQ'))
    · exact wpAny_bind (wpAny_pure (wpAny_pure hQ'))
  cases r with
  | none =>
    simp only at hm hQ
    rw [hm]
    exact wpAny_pure hQ
  | some x =>
    obtain ⟨a, e⟩ := x
    simp only at hm hQ
    rw [hm.1]
    exact wpAny_pure (hQ m' hm.2.1 hm.2.2)
end

structure IsPat (h : Heap) (pa : Addr) (code : Array Nat) : Prop where
  ex : ∃ o fs T o' items n, h.get? pa = some o ∧ o.cls = .type "re.Pattern" ∧ o.dict = none ∧ o.data = .fields fs ∧ fs.getD 5 .none = .ref T ∧ Builtin.Re.reRawNat (fs.getD 2 .none) = 0 ∧ Builtin.Re.reRawNat (fs.getD 6 .none) = 0 ∧
    h.get? T = some o' ∧ o'.cls = .type "tuple" ∧ o'.data = .seq items n ∧ (items.map Builtin.Re.reRawOf).map (·.toNat) = code

theorem IsPat.keeps {h h' : Heap} {pa : Addr} {code : Array Nat} (x : IsPat h pa code) (k : ∀ a o, h.get? a = some o → h'.get? a = some o) : IsPat h' pa code := by
  obtain ⟨o, fs, T, o', items, n, h1, h2, h3, h4, h5, h6, h7, h8, h9⟩ := x.ex
  exact ⟨o, fs, T, o', items, n, k _ _ h1, h2, h3, h4, h5, h6, h7, k _ _ h8, h9⟩

section
variable {Md : Model} {A : Around} {E : Value → Shared → Prop} {s : Shared}

theorem wholeTarget_ok {pa : Addr} {code : Array Nat} {x : Str} {tk : Tok} {Q : Builtin.Re.ReTarget → Shared → Prop} (P : IsPat s.heap pa code)
    (h : Q { pattern := .ref pa, string := .str x tk, code := code, text := x.cps, kind := 0, groups := 0, pos := 0, lim := x.cps.size } s) : wpAny Md A (Builtin.Re.reWholeTarget (.ref pa) (.str x tk)) Q E s := by
  obtain ⟨o, fs, T, o', items, n, h1, h2, h3, h4, h5, h6, h7, h8, _, h9, h10⟩ := P.ex
  unfold Builtin.Re.reWholeTarget
  refine wpAny_bind (wpAny_fieldsOf h1 h4 ?_)
  refine wpAny_bind ?_
  show wpAny Md A (Builtin.Re.reTextOf (.str x tk)) _ E s
  unfold Builtin.Re.reTextOf
  refine wpAny_bind (wpAny_pure ?_)
  refine wpAny_pure ?_
  simp only [h7]
  refine wpAny_bind ?_
  refine wpAny_pure ?_
  refine wpAny_bind ?_
  rw [h5]
  unfold Builtin.Re.reRawItems
  refine wpAny_bind (wpAny_seqItems h8 h9 (wpAny_pure ?_))
  refine wpAny_pure ?_
  simp only [Option.getD_some, h10, h6]
  exact h
end
end Mine
open PySem PySem.Calls PyProof.Rows PySem.W
set_option Elab.async false
set_option autoImplicit false
namespace Mine
open PySem.Sre (M)

noncomputable def cut (x : Array Nat) (a b : Nat) : List Str := if a < b then [⟨x.extract a b⟩] else []

inductive SubR (code x : Array Nat) (rp : Str) : Nat → List Str → Prop
  | stop {pos n : Nat} : n ≤ 4 * 2 ^ 64 → EndsIn n (Sre.forSearch code x 0 pos x.size false) none → SubR code x rp pos (cut x pos x.size)
  | go {pos n a e : Nat} {ps : List Str} : n ≤ 4 * 2 ^ 64 → EndsIn n (Sre.forSearch code x 0 pos x.size false) (some (a, e)) → a < e → SubR code x rp e ps → SubR code x rp pos (cut x pos a ++ rp :: ps)

section
variable {prog : Program} {w : World} {A : Around} {s : Shared}

structure Pcs (h : Heap) (D : Addr) (acc : List Str) : Prop where
  ex : ∃ o vs n, h.get? D = some o ∧ o.cls = .type "list" ∧ o.data = .seq vs n ∧ StrsAre vs.toList acc

theorem Pcs.isList {h : Heap} {D : Addr} {acc : List Str} (p : Pcs h D acc) : ∃ items : Array Value, h.IsList D items ∧ StrsAre items.toList acc := by
  obtain ⟨o, vs, n, h1, h2, h3, h4⟩ := p.ex
  exact ⟨vs, ⟨o, h1, h2, n, h3⟩, h4⟩

theorem strs_snoc {vs : List Value} {xs : List Str} (h : StrsAre vs xs) (x : Str) (t : Tok) : StrsAre (vs ++ [.str x t]) (xs ++ [x]) := by
  induction h with
  | nil => exact .cons x t .nil
  | cons k t' _ ih => exact .cons k t' ih

theorem push_ok {D : Addr} {acc : List Str} {x : Str} {t : Tok} {Md : Model} {E : Value → Shared → Prop} {Q : Unit → Shared → Prop} (P : Pcs s.heap D acc) (hsz : acc.length ≤ sizeLine)
    (h : ∀ h', Pcs h' D (acc ++ [x]) → (∀ a o, a ≠ D → s.heap.get? a = some o → h'.get? a = some o) → Q () { s with heap := h' }) : wpAny Md A (updateSeq D (·.push (.str x t))) Q E s := by
  obtain ⟨o, vs, n, h1, h2, h3, h4⟩ := P.ex
  have hl : vs.size = acc.length := by
    have := h4.length; simpa using this
  refine wpAny_updateSeq h1 h3 (h _ ?_ fun a o' hne e => ?_) (by (first | lia | omega)) (by rw [Array.size_push]; (first | lia | omega))
  · obtain ⟨c, dd, dt, sl⟩ := o
    simp only at h2 h3
    subst h2; subst h3
    refine ⟨Obj.mapSeq (·.push (.str x t)) ⟨.type "list", dd, .seq vs n, sl⟩, vs.push (.str x t), _, Heap.get?_update_self _ h1 rfl, rfl, rfl, ?_⟩
    rw [Array.toList_push]
    exact strs_snoc h4 x t
  · rw [Heap.get?_update_other _ _ (Ne.symm hne)]; exact e

theorem cut_ok {β : Type} {k : Sem β} {D : Addr} {acc : List Str} {x : Array Nat} {a b : Nat} {Md : Model} {E : Value → Shared → Prop} {Q : β → Shared → Prop} (P : Pcs s.heap D acc) (hsz : acc.length ≤ sizeLine) (hx : x.size ≤ sizeLine)
    (h : ∀ h' tk, Pcs h' D (acc ++ cut x a b) → (∀ a o, a ≠ D → s.heap.get? a = some o → h'.get? a = some o) → wpAny Md A k Q E { s with heap := h', toks := tk }) :
    wpAny Md A (if a < b then do let v ← Builtin.Re.reSlice x 0 a b; updateSeq D (·.push v); k else k) Q E s := by
  unfold cut at h
  by_cases hab : a < b
  · rw [if_pos hab] at h ⊢
    refine wpAny_bind ?_
    unfold Builtin.Re.reSlice
    rw [if_pos (by decide)]
    refine wpAny_mkStr ?_ ?_
    · exact wpAny_bind (push_ok (s := { s with toks := s.toks + 1 }) P hsz fun h' p k => h h' _ p k)
    · show (x.extract a b).size ≤ _
      rw [Array.size_extract]; (first | lia | omega)
  · rw [if_neg hab] at h ⊢
    exact h s.heap s.toks (by rw [List.append_nil]; exact P) fun _ _ _ e => e

theorem IsPat.but {h h' : Heap} {pa D : Addr} {code : Array Nat} {acc : List Str} (x : IsPat h pa code) (c : Pcs h D acc) (k : ∀ a o, a ≠ D → h.get? a = some o → h'.get? a = some o) : IsPat h' pa code := by
  obtain ⟨o, fs, T, o', items, n, h1, h2, h3, h4, h5, h6, h7, h8, h9, h10⟩ := x.ex
  obtain ⟨od, vs, n', d1, d2, _⟩ := c.ex
  refine ⟨o, fs, T, o', items, n, k _ _ (fun e => ?_) h1, h2, h3, h4, h5, h6, h7, k _ _ (fun e => ?_) h8, h9, h10⟩
  · subst e; rw [h1] at d1; cases d1; rw [h2] at d2; exact absurd d2 (by decide)
  · subst e; rw [h8] at d1; cases d1; rw [h9] at d2; exact absurd d2 (by decide)

theorem join_empty (acc : List Str) (x : Array Nat) : Txt.join ⟨x.extract 0 0⟩ acc = Txt.join ⟨#[]⟩ acc := by
  have : x.extract 0 0 = #[] := by simp
  rw [this]

theorem loop_ok {R : Result → Shared → Prop} {pa D : Addr} {code : Array Nat} {x rp : Str} {tk tr : Tok} (hx : x.cps.size ≤ sizeLine) : ∀ {pos : Nat} {ps : List Str}, SubR code x.cps rp pos ps → ∀ (acc : List Str) (n : Int) (s : Shared),
    IsPat s.heap pa code → Pcs s.heap D acc → acc.length + ps.length ≤ sizeLine → ((acc ++ ps).map (·.length)).sum ≤ 16777216 →
    (∀ t' h' tk', (∀ a o, a ≠ D → s.heap.get? a = some o → h'.get? a = some o) → R (.ok (.ret (.str (Txt.join ⟨#[]⟩ (acc ++ ps)) t'))) { s with heap := h', toks := tk' }) →
    codeAny (model prog w) A (.builtin "re.Pattern.sub.loop" ⟨[.ref pa, .str x tk, .str rp tr, rawInt 0, rawInt 0, rawInt n, rawInt pos, rawInt pos, .bool false, .ref D, .bool false], []⟩) R s := by
  intro pos ps sub
  induction sub with
  | @stop pos n hn he =>
    intro acc n' s P C hlen hsum hR
    refine codeAny_builtin entry_pat_loop ?_
    unfold Builtin.«re.Pattern.sub.loop»
    simp only [rawInt]
    refine wpAny_bind (wholeTarget_ok P ?_)
    rw [if_pos (by decide)]
    refine wpAny_bind ?_
    show wpAny _ _ (Builtin.Re.reLiteralCannotBeTurned (Value.str rp tr)) _ _ s
    refine wpAny_bind (wpAny_pure ?_)
    refine wpAny_pure ?_
    refine wpAny_bind ?_
    rw [if_neg (by simp)]
    refine runToEnd_ok he hn ?_
    simp only
    refine cut_ok C (by (first | lia | omega)) hx fun h' tk' C' k' => ?_
    refine wpAny_bind ?_
    unfold Builtin.Re.reSlice
    rw [if_pos (by decide)]
    refine wpAny_mkStr ?_ (by show (x.cps.extract 0 0).size ≤ _; simp)
    obtain ⟨o, vs, nn, d1, d2, d3, d4⟩ := C'.ex
    refine wpAny_bind (wpAny_seqItems (s := { s with heap := h', toks := tk' + 1 }) d1 d3 ?_)
    simp only [Option.getD_some]
    by_cases hem : vs.isEmpty = true
    · rw [if_pos hem]
      have hv : vs = #[] := by simpa using hem
      have ha : acc ++ cut x.cps pos x.cps.size = [] := by
        rw [hv] at d4
        have := d4.length
        exact List.eq_nil_of_length_eq_zero this.symm
      refine wpAny_bind (wpAny_pure ?_)
      refine wpAny_pure ?_
      have := hR tk' h' (tk' + 1) k'
      rw [ha] at this
      have e : (⟨x.cps.extract 0 0⟩ : Str) = Txt.join ⟨#[]⟩ [] := by
        have : x.cps.extract 0 0 = #[] := by simp
        rw [this]; rfl
      rw [e]; exact this
    · rw [if_neg hem]
      refine wpAny_bind ?_
      show wpAny _ _ (call (.builtin "str.join") [_, _]) _ _ _
      refine join_list (s := { s with heap := h', toks := tk' + 1 }) (items := vs) ⟨o, d1, d2, nn, d3⟩ d4 ?_ fun t' kk => ?_
      · have e0 : (⟨x.cps.extract 0 0⟩ : Str).length = 0 := by show (x.cps.extract 0 0).size = 0; simp
        rw [e0, Nat.mul_zero, Nat.add_zero]; exact hsum
      · refine wpAny_pure ?_
        rw [join_empty]
        exact hR t' h' kk k'
  | @go pos n a e ps hn he hae sub ih =>
    intro acc n' s P C hlen hsum hR
    rw [List.length_append, List.length_cons] at hlen
    refine codeAny_builtin entry_pat_loop ?_
    unfold Builtin.«re.Pattern.sub.loop»
    simp only [rawInt]
    refine wpAny_bind (wholeTarget_ok P ?_)
    rw [if_pos (by decide)]
    refine wpAny_bind ?_
    show wpAny _ _ (Builtin.Re.reLiteralCannotBeTurned (Value.str rp tr)) _ _ s
    refine wpAny_bind (wpAny_pure ?_)
    refine wpAny_pure ?_
    refine wpAny_bind ?_
    rw [if_neg (by simp)]
    refine runToEnd_ok he hn ?_
    simp only
    intro m' hs' he'
    subst hs'; subst he'
    refine cut_ok C (by (first | lia | omega)) hx fun h' tk' C' k' => ?_
    rw [if_pos (by decide)]
    refine wpAny_bind (wpAny_pure ?_)
    rw [if_pos (by rfl)]
    refine wpAny_bind (push_ok (s := { s with heap := h', toks := tk' }) C' (by rw [List.length_append]; show _ + (cut x.cps pos m'.start).length ≤ _; (first | lia | omega)) fun h2 C2 k2 => ?_)
    refine wpAny_pure (And.intro (plainId_quiet (by decide +kernel) _) ?_)
    have hb : (m'.handed == m'.start) = false := by simp; (first | lia | omega)
    rw [hb]
    have e1 : acc ++ (cut x.cps pos m'.start ++ rp :: ps) = (acc ++ cut x.cps pos m'.start ++ [rp]) ++ ps := by simp
    refine ih (acc ++ cut x.cps pos m'.start ++ [rp]) (n' + 1) { s with heap := h2, toks := tk' } ((P.but C k').but C' k2) C2 ?_ ?_ fun t' h3 tk3 k3 => ?_
    · simp only [List.length_append, List.length_cons, List.length_nil]; (first | lia | omega)
    · rw [← e1]; exact hsum
    · rw [← e1]
      exact hR t' h3 tk3 fun b o hb e => k3 b o hb (k2 b o hb (k' b o hb e))
end
end Mine
open PySem PySem.Calls PyProof.Rows PySem.W
set_option Elab.async false
set_option autoImplicit false
set_option maxRecDepth 100000
namespace Mine
open PySem.Sre (M)

theorem named_ok (a b : Value) : Builtin.Re.reNamed "re.Pattern.sub" "sub" ["repl", "string", "count"] 2 [a, b] [] = pure [some a, some b, none] := by rfl
theorem str_no_call : typeLookup (.type "str") "__call__" = pure none := by rw [typeLookup_type, builtinLookup_eq_fast]; kernel_rfl

section
variable {prog : Program} {w : World} {A : Around} {s : Shared}

theorem sub_ok {E : Value → Shared → Prop} {Q : Value → Shared → Prop} {pa : Addr} {code : Array Nat} {x rp : Str} {tk tr : Tok} {ps : List Str} (P : IsPat s.heap pa code) (hrp : rp.cps.contains 92 = false) (hx : x.cps.size ≤ sizeLine)
    (sub : SubR code x.cps rp 0 ps) (hlen : ps.length ≤ sizeLine) (hsum : (ps.map (·.length)).sum ≤ 16777216)
    (hQ : ∀ t' h' tk', (∀ a o, s.heap.get? a = some o → h'.get? a = some o) → Q (.str (Txt.join ⟨#[]⟩ ps) t') { s with heap := h', toks := tk' }) :
    wpAny (model prog w) A (call (.builtin "re.Pattern.sub") [.ref pa, .str rp tr, .str x tk]) Q E s := by
  have hT : s.TypeIs (.ref pa) "re.Pattern" := by
    obtain ⟨o, fs, T, o', items, n, h1, h2, _⟩ := P.ex
    exact ⟨o, h1, h2⟩
  refine wpAny_call (codeAny_call_builtin slot_pat_sub.plain entry_pat_sub ?_)
  refine slot_pat_sub.check _ _ _ _ _ _ _ _ hT (args_pat_sub_3 _ _ _) ?_
  show wpAny _ _ (Builtin.Re.reSubstitute "re.Pattern.sub" "sub" false _) _ _ s
  unfold Builtin.Re.reSubstitute
  simp only
  rw [named_ok]
  refine wpAny_bind (wpAny_pure ?_)
  simp only
  refine wpAny_bind (wpAny_pure ?_)
  refine wpAny_bind (wpAny_specialOf (typeIs_str _ _ _) str_no_call ?_)
  refine wpAny_bind ?_
  simp only [Option.isSome_none, Bool.false_eq_true, if_false]
  refine wpAny_bind (wpAny_pure ?_)
  refine wpAny_pure ?_
  simp only [hrp, Bool.not_false]
  refine wpAny_bind (wpAny_pure ?_)
  rw [if_pos rfl]
  refine wpAny_bind (wpAny_pure ?_)
  simp only
  refine wpAny_bind (wpAny_holding (wholeTarget_ok P ?_))
  rw [if_neg (by decide)]
  refine wpAny_bind (wpAny_newList ?_)
  refine wpAny_pure (And.intro (plainId_quiet (by decide +kernel) _) ?_)
  have kk : ∀ a o, s.heap.get? a = some o → (s.heap.push { cls := .type "list", data := .seq ([] : List Value).toArray }).get? a = some o := Heap.push_keeps _
  refine loop_ok hx sub [] 0 _ (P.keeps kk) ⟨_, #[], _, Heap.get?_push_size _ rfl, rfl, rfl, .nil⟩ (by simpa using hlen) (by simpa using hsum) fun t' h' tk' k' => ?_
  exact hQ t' h' tk' fun a o e => k' a o (fresh_ne e) (kk a o e)
end
end Mine
open PySem PySem.Calls PyProof.Rows PySem.W
set_option Elab.async false
set_option autoImplicit false
namespace Mine
open PySem.StrLaws PySem.Builtin.Str

noncomputable def glue (e : List Nat) : List (List Nat) → List Nat
  | [] => []
  | [l] => l
  | l :: r => l ++ e ++ glue e r

theorem glue_cons {e l : List Nat} {r : List (List Nat)} (h : r ≠ []) : glue e (l :: r) = l ++ e ++ glue e r := by
  cases r with
  | nil => exact absurd rfl h
  | cons a b => rfl

noncomputable abbrev S (l : List Nat) : Str := ⟨l.toArray⟩
theorem S_toList (x : Str) : S x.cps.toList = x := by cases x; rfl

theorem join_glue (e : List Nat) : ∀ ls : List (List Nat), Txt.join (S e) (ls.map S) = S (glue e ls) := by
  intro ls
  show glued _ _ = _
  rw [glued_eq_join]
  induction ls with
  | nil => rfl
  | cons l r ih =>
    cases r with
    | nil => rfl
    | cons m r =>
      show S l ++ S e ++ Str.join (S e) (S m :: r.map S) = _
      rw [show S m :: r.map S = (m :: r).map S from rfl, ih, glue_cons (l := l) (r := m :: r) (by simp)]
      apply Str.ext'
      apply Array.toList_inj.mp
      simp [Str.cps_append]

theorem at_char {x : List Nat} {c : Nat} {se : List Nat} {k : Nat} (h : At (S x) (S (c :: se)) x.length k) : x[k]? = some c := by
  obtain ⟨h1, h2⟩ := h
  rw [subAt_eq] at h2
  have h3 := eq_of_beq h2
  have h4 : ((x.drop k).take (c :: se).length)[0]? = some c := by
    have : ((S x).cps.toList.drop k).take (S (c :: se)).length = c :: se := h3
    have e : (x.drop k).take (c :: se).length = c :: se := this
    rw [e]; rfl
  simpa using h4

theorem parts_ok {c : Nat} {se : List Nat} : ∀ (ls : List (List Nat)) (x pre : List Nat) (cuts : List Nat) (f : Nat), ls ≠ [] → (∀ l ∈ ls, c ∉ l) → x = pre ++ glue (c :: se) ls →
    ChainG (S x) (S (c :: se)) x.length pre.length cuts f → (∀ k, f ≤ k → ¬ At (S x) (S (c :: se)) x.length k) → partsFrom (S x) (c :: se).length pre.length cuts = ls.map S
  | [], _, _, _, _, h, _, _, _, _ => absurd rfl h
  | [l], x, pre, cuts, f, _, hl, hx, hc, hn => by
    subst hx
    have noAt : ∀ k, pre.length ≤ k → ¬ At (S (pre ++ l)) (S (c :: se)) (pre ++ l).length k := fun k hk hA => by
      have := at_char hA
      rw [List.getElem?_append_right hk] at this
      exact hl l (.head _) (List.mem_of_getElem? this)
    cases cuts with
    | nil =>
      show [strSub (S (pre ++ l)) pre.length (S (pre ++ l)).length] = [S l]
      congr 1
      apply Str.ext'
      apply Array.toList_inj.mp
      rw [strSub_toList]
      show ((pre ++ l).drop pre.length).take ((pre ++ l).length - pre.length) = l
      rw [List.drop_left, List.length_append, Nat.add_sub_cancel_left, List.take_length]
    | cons d r => exact absurd hc.2.1 (noAt d hc.1)
  | l :: m :: ls, x, pre, cuts, f, _, hl, hx, hc, hn => by
    rw [glue_cons (by simp)] at hx
    have hA : At (S x) (S (c :: se)) x.length (pre.length + l.length) := by
      refine ⟨?_, ?_⟩
      · rw [hx]; show _ + (c :: se).length ≤ _; simp only [List.length_append]; (first | lia | omega)
      · rw [subAt_eq]
        have : (x.drop (pre.length + l.length)).take (c :: se).length = c :: se := by
          rw [hx, show pre ++ (l ++ (c :: se) ++ glue (c :: se) (m :: ls)) = (pre ++ l) ++ ((c :: se) ++ glue (c :: se) (m :: ls)) by simp]
          rw [show pre.length + l.length = (pre ++ l).length by simp, List.drop_left, List.take_left]
        show (((S x).cps.toList.drop _).take (S (c :: se)).length == (S (c :: se)).cps.toList) = true
        exact beq_iff_eq.mpr this
    cases cuts with
    | nil =>
      have e : f = pre.length := hc
      exact absurd hA (hn _ (by (first | lia | omega)))
    | cons d r =>
      obtain ⟨h1, h2, h3, h4⟩ := hc
      have hd : d = pre.length + l.length := by
        rcases Nat.lt_trichotomy d (pre.length + l.length) with h | h | h
        · exfalso
          have := at_char h2
          rw [hx, List.getElem?_append_right h1, List.append_assoc, List.getElem?_append_left (by (first | lia | omega))] at this
          exact hl l (.head _) (List.mem_of_getElem? this)
        · exact h
        · exact absurd hA (h3 _ (by (first | lia | omega)) h)
      subst hd
      show strSub (S x) pre.length (pre.length + l.length) :: partsFrom (S x) (c :: se).length (pre.length + l.length + (c :: se).length) r = S l :: (m :: ls).map S
      have e1 : strSub (S x) pre.length (pre.length + l.length) = S l := by
        apply Str.ext'
        apply Array.toList_inj.mp
        rw [strSub_toList]
        show (x.drop pre.length).take _ = l
        rw [hx, List.drop_left, Nat.add_sub_cancel_left, List.append_assoc, List.take_left]
      have e2 := parts_ok (m :: ls) x (pre ++ l ++ (c :: se)) r f (by simp) (fun y hy => hl y (.tail _ hy)) (by rw [hx]; simp) (by
        have : (pre ++ l ++ c :: se).length = pre.length + l.length + (S (c :: se)).length := by
          show _ = _ + _ + (c :: se).length
          simp only [List.length_append]
        rw [this]; exact h4) hn
      have e3 : (pre ++ l ++ c :: se).length = pre.length + l.length + (c :: se).length := by simp only [List.length_append]
      rw [e1, ← e3, e2]

theorem kind_le {x y : List Nat} (h : ∀ c ∈ y, c < 256) : ¬ (Builtin.Str.strKind (S x) < Builtin.Str.strKind (S y)) := by
  have : Builtin.Str.strKind (S y) = 1 := by
    unfold Builtin.Str.strKind
    rw [if_pos]
    rw [← Array.all_toList]
    exact List.all_eq_true.mpr fun c hc => decide_eq_true (h c hc)
  rw [this]
  unfold Builtin.Str.strKind
  split
  · (first | lia | omega)
  · split <;> (first | lia | omega)

theorem split_glue {c : Nat} {se : List Nat} (hs : ∀ d ∈ c :: se, d < 256) (ls : List (List Nat)) (h0 : ls ≠ []) (hl : ∀ l ∈ ls, c ∉ l) : Txt.split (S (glue (c :: se) ls)) (S (c :: se)) = ls.map S := by
  obtain ⟨f, hc, hn⟩ := occ_tight (S (glue (c :: se) ls)) (S (c :: se)) (by show 1 ≤ (c :: se).length; simp)
  have key := parts_ok ls (glue (c :: se) ls) [] _ f h0 hl rfl hc hn
  have one : ∀ {P : Prop}, (∀ k, ¬ At (S (glue (c :: se) ls)) (S (c :: se)) (glue (c :: se) ls).length k) → [S (glue (c :: se) ls)] = ls.map S := fun {P} hno => by
    match ls, h0 with
    | [l], _ => rfl
    | l :: m :: r, _ =>
      exfalso
      refine hno l.length ⟨?_, ?_⟩
      · rw [glue_cons (by simp)]; show _ + (c :: se).length ≤ _; simp only [List.length_append]; (first | lia | omega)
      · rw [subAt_eq]
        have : ((glue (c :: se) (l :: m :: r)).drop l.length).take (c :: se).length = c :: se := by
          rw [glue_cons (by simp), List.append_assoc, List.drop_left, List.take_left]
        show (((S (glue (c :: se) (l :: m :: r))).cps.toList.drop _).take (S (c :: se)).length == (S (c :: se)).cps.toList) = true
        exact beq_iff_eq.mpr this
  unfold Txt.split
  split
  · rename_i hb
    refine one (P := True) fun k hA => ?_
    rw [Bool.or_eq_true, decide_eq_true_eq, decide_eq_true_eq] at hb
    rcases hb with hb | hb
    · have := hA.1
      have e : (S (glue (c :: se) ls)).length = (glue (c :: se) ls).length := by show (glue (c :: se) ls).toArray.size = _; simp
      rw [e] at hb
      (first | lia | omega)
    · exact kind_le hs hb
  · split
    · rename_i he
      have e0 := List.isEmpty_iff.mp he
      refine one (P := True) fun k hA => ?_
      rw [e0] at hc
      have ef : f = 0 := hc
      exact hn k (by (first | lia | omega)) hA
    · rw [partsBetween_eq]
      exact key
end Mine
open PySem PySem.Calls PyProof.Rows PySem.W
set_option Elab.async false
set_option autoImplicit false
namespace Mine

theorem gd (l : List Nat) (i : Nat) : l.toArray.getD i 0 = (l[i]?).getD 0 := by simp
noncomputable def flatS (ps : List Str) : List Nat := ps.flatMap (·.cps.toList)

theorem cut_flat (x : List Nat) {a b : Nat} (hab : a ≤ b) : flatS (cut x.toArray a b) = (x.drop a).take (b - a) := by
  unfold cut flatS
  split
  · simp
  · have : b - a = 0 := by (first | lia | omega)
    rw [this]; simp
theorem cut_len (x : Array Nat) (a b : Nat) : (cut x a b).length ≤ 1 := by unfold cut; split <;> simp

noncomputable def okLine (l : List Nat) : Prop := 10 ∉ l ∧ 13 ∉ l
noncomputable def isEnd (e : List Nat) : Prop := e = [10] ∨ e = [13] ∨ e = [13, 10]

theorem in_line {l : List Nat} {i : Nat} (h : i < l.length) : (l[i]?).getD 0 ∈ l := by
  rw [List.getElem?_eq_getElem h]; exact List.getElem_mem h

theorem no_hit2 {pre l post : List Nat} (hl : okLine l) : ∀ i, pre.length ≤ i → i < pre.length + l.length → ¬ Hit2 (pre ++ (l ++ post)).toArray i := by
  intro i h1 h2 hh
  unfold Hit2 at hh
  rw [gd, List.getElem?_append_right h1, List.getElem?_append_left (by (first | lia | omega))] at hh
  have hm := in_line (l := l) (i := i - pre.length) (by (first | lia | omega))
  rcases hh with h | h
  · rw [h] at hm; exact hl.1 hm
  · rw [h] at hm; exact hl.2 hm

theorem head_not10 {e m : List Nat} {r : List (List Nat)} (he : e = [13]) (hm : okLine m) : (glue e (m :: r))[0]? ≠ some 10 := by
  intro h
  subst he
  cases r with
  | nil =>
    have : glue [13] [m] = m := rfl
    rw [this] at h
    exact hm.1 (List.mem_of_getElem? h)
  | cons a b =>
    rw [glue_cons (by simp)] at h
    cases m with
    | nil => simp at h
    | cons c m => simp at h; exact hm.1 (by rw [h]; exact .head _)

theorem norm_ok {e : List Nat} (he : isEnd e) : ∀ (ls : List (List Nat)) (pre : List Nat), ls ≠ [] → (∀ l ∈ ls, okLine l) →
    ∃ ps, SubR c2 (pre ++ glue e ls).toArray (S [13, 10]) pre.length ps ∧ flatS ps = glue [13, 10] ls ∧ ps.length ≤ 2 * ls.length
  | [], _, h, _ => absurd rfl h
  | [l], pre, _, hl => by
    have hno := no_hit2 (pre := pre) (post := []) (hl l (.head _))
    rw [List.append_nil] at hno
    refine ⟨_, SubR.stop (n := 20) (by (first | lia | omega)) (c2_search _ _ none (by simp) fun i h1 h2 => hno i h1 (by have e0 : glue e [l] = l := rfl; rw [e0] at h2; simpa using h2)), ?_, ?_⟩
    · rw [cut_flat _ (by simp)]
      show ((pre ++ l).drop pre.length).take _ = l
      rw [List.drop_left, List.take_of_length_le (by show _ ≤ (pre ++ l).toArray.size - _; simp)]
    · have := cut_len (pre ++ glue e [l]).toArray pre.length (pre ++ glue e [l]).toArray.size
      simp only [List.length_cons, List.length_nil]; (first | lia | omega)
  | l :: m :: ls, pre, _, hl => by
    obtain ⟨ps, h1, h2, h3⟩ := norm_ok he (m :: ls) (pre ++ l ++ e) (by simp) fun y hy => hl y (.tail _ hy)
    have hx : pre ++ glue e (l :: m :: ls) = pre ++ (l ++ (e ++ glue e (m :: ls))) := by rw [glue_cons (by simp), List.append_assoc]
    have hx2 : pre ++ l ++ e ++ glue e (m :: ls) = pre ++ (l ++ (e ++ glue e (m :: ls))) := by simp
    rw [hx]
    rw [hx2] at h1
    have hno := no_hit2 (pre := pre) (post := e ++ glue e (m :: ls)) (hl l (.head _))
    have hget : ∀ j, (pre ++ (l ++ (e ++ glue e (m :: ls)))).toArray.getD (pre.length + l.length + j) 0 = ((e ++ glue e (m :: ls))[j]?).getD 0 := fun j => by
      rw [gd, List.getElem?_append_right (by (first | lia | omega)), List.getElem?_append_right (by (first | lia | omega))]
      congr 2; (first | lia | omega)
    have hsz : (pre ++ (l ++ (e ++ glue e (m :: ls)))).toArray.size = pre.length + l.length + e.length + (glue e (m :: ls)).length := by simp; (first | lia | omega)
    have hel : 1 ≤ e.length := by rcases he with rfl | rfl | rfl <;> simp
    have hhit : Hit2 (pre ++ (l ++ (e ++ glue e (m :: ls)))).toArray (pre.length + l.length) := by
      unfold Hit2
      have := hget 0
      rw [Nat.add_zero] at this
      rw [this]
      rcases he with rfl | rfl | rfl <;> simp
    have hlen : len2 (pre ++ (l ++ (e ++ glue e (m :: ls)))).toArray (pre.length + l.length) = e.length := by
      unfold len2
      have g0 := hget 0
      have g1 := hget 1
      rw [Nat.add_zero] at g0
      rw [g0, g1, hsz]
      rcases he with rfl | rfl | rfl
      · rw [if_neg (by simp)]; rfl
      · rw [if_neg]; rfl
        rintro ⟨_, h5, h6⟩
        have hh := head_not10 (r := ls) (rfl : ([13] : List Nat) = [13]) (hl m (.tail _ (.head _)))
        simp only [List.cons_append, List.nil_append, List.getElem?_cons_succ] at h6
        cases hq : (glue [13] (m :: ls))[0]? with
        | none => rw [hq] at h6; cases h6
        | some c => rw [hq] at h6 hh; simp at h6; subst h6; exact hh rfl
      · rw [if_pos]; rfl
        refine ⟨by simp, by simp; (first | lia | omega), by simp⟩
    have e3 : (pre ++ l ++ e).length = pre.length + l.length + e.length := by simp only [List.length_append]
    rw [e3] at h1
    refine ⟨_, SubR.go (n := 20) (a := pre.length + l.length) (by (first | lia | omega)) (c2_search _ _ (some (_, _)) (by rw [hsz]; (first | lia | omega)) ⟨by (first | lia | omega), by rw [hsz]; (first | lia | omega), hno, hhit, rfl⟩) (by rw [hlen]; (first | lia | omega)) (by rw [hlen]; exact h1), ?_, ?_⟩
    · unfold flatS at h2 ⊢
      rw [List.flatMap_append, List.flatMap_cons, h2]
      have := cut_flat (pre ++ (l ++ (e ++ glue e (m :: ls)))) (a := pre.length) (b := pre.length + l.length) (by (first | lia | omega))
      unfold flatS at this
      rw [this, List.drop_left, Nat.add_sub_cancel_left, List.take_left]
      rw [glue_cons (e := [13, 10]) (l := l) (r := m :: ls) (by simp)]
      simp
    · have := cut_len (pre ++ (l ++ (e ++ glue e (m :: ls)))).toArray pre.length (pre.length + l.length)
      simp only [List.length_append, List.length_cons] at h3 ⊢; (first | lia | omega)

noncomputable def dotted (l : List Nat) : List Nat := if l[0]? = some 46 then 46 :: l else l

theorem dots_ok : ∀ (ls : List (List Nat)) (pre u : List Nat), ls ≠ [] → (∀ l ∈ ls, okLine l) → (pre ++ u = [] ∨ ∃ v, pre ++ u = v ++ [10]) → (pre ++ u ++ glue [13, 10] ls).length ≤ 2 ^ 40 →
    (∀ i, pre.length ≤ i → i < pre.length + u.length → ¬ Hit1 (pre ++ u ++ glue [13, 10] ls).toArray i) →
    ∃ ps, SubR c1 (pre ++ u ++ glue [13, 10] ls).toArray (S [46, 46]) pre.length ps ∧ flatS ps = u ++ glue [13, 10] (ls.map dotted) ∧ ps.length ≤ 2 * ls.length + 1
  | [], _, _, h, _, _, _, _ => absurd rfl h
  | l :: ls, pre, u, _, hl, hst, hbig, hu => by
    -- the text behind the line
    obtain ⟨rest, hrest⟩ : ∃ rest, glue [13, 10] (l :: ls) = l ++ rest ∧ (ls = [] ∧ rest = [] ∨ ls ≠ [] ∧ rest = [13, 10] ++ glue [13, 10] ls) := by
      cases ls with
      | nil => exact ⟨[], by simp [glue], .inl ⟨rfl, rfl⟩⟩
      | cons m r => exact ⟨_, by rw [glue_cons (by simp), List.append_assoc], .inr ⟨by simp, rfl⟩⟩
    obtain ⟨hg, hcase⟩ := hrest
    generalize hX : pre ++ u ++ glue [13, 10] (l :: ls) = X at hu hbig ⊢
    rw [hg] at hX
    have hX' : X = (pre ++ u) ++ (l ++ rest) := hX.symm
    have hb : (pre ++ u).length = pre.length + u.length := by simp
    have hgetl : ∀ j, j < l.length → X.toArray.getD (pre.length + u.length + j) 0 = (l[j]?).getD 0 := fun j hj => by
      rw [gd, hX', List.getElem?_append_right (by (first | lia | omega)), List.getElem?_append_left (by (first | lia | omega))]
      congr 2; (first | lia | omega)
    have hgetr : ∀ j, X.toArray.getD (pre.length + u.length + l.length + j) 0 = (rest[j]?).getD 0 := fun j => by
      rw [gd, hX', List.getElem?_append_right (by (first | lia | omega)), List.getElem?_append_right (by (first | lia | omega))]
      congr 2; (first | lia | omega)
    have hsz : X.toArray.size = pre.length + u.length + l.length + rest.length := by rw [hX']; simp; (first | lia | omega)
    have hbig' : 3 * X.toArray.size + 5 ≤ 4 * 2 ^ 64 := by rw [List.size_toArray]; (first | lia | omega)
    have lok := hl l (.head _)
    -- no hit inside the line
    have hin : ∀ i, pre.length + u.length < i → i < pre.length + u.length + l.length + 1 → ¬ Hit1 X.toArray i := fun i h1 h2 hh => by
      obtain ⟨hh, _⟩ := hh
      rcases hh with hh | hh
      · (first | lia | omega)
      · have := hgetl (i - 1 - (pre.length + u.length)) (by (first | lia | omega))
        rw [show pre.length + u.length + (i - 1 - (pre.length + u.length)) = i - 1 by (first | lia | omega)] at this
        rw [this] at hh
        have hm := in_line (l := l) (i := i - 1 - (pre.length + u.length)) (by (first | lia | omega))
        rw [hh] at hm
        exact lok.1 hm
    have hcr : ls ≠ [] → ∀ i, pre.length + u.length + l.length ≤ i → i < pre.length + u.length + l.length + 2 → ¬ Hit1 X.toArray i := fun hne i h1 h2 hh => by
      obtain ⟨_, hh⟩ := hh
      have hr : rest = [13, 10] ++ glue [13, 10] ls := by
        rcases hcase with ⟨h, _⟩ | ⟨_, h⟩
        · exact absurd h hne
        · exact h
      have := hgetr (i - (pre.length + u.length + l.length))
      rw [show pre.length + u.length + l.length + (i - (pre.length + u.length + l.length)) = i by (first | lia | omega)] at this
      rw [this, hr] at hh
      have : i - (pre.length + u.length + l.length) = 0 ∨ i - (pre.length + u.length + l.length) = 1 := by (first | lia | omega)
      rcases this with h | h <;> (rw [h] at hh; simp at hh)
    have hstart : pre.length + u.length = 0 ∨ X.toArray.getD (pre.length + u.length - 1) 0 = 10 := by
      rcases hst with h | ⟨v, hv⟩
      · left; rw [← hb, h]; rfl
      · right
        rw [gd, hX', List.getElem?_append_left (by rw [hv]; simp; have := congrArg List.length hv; simp at this; (first | lia | omega)), hv]
        have := congrArg List.length hv
        simp at this
        rw [this]; simp
    by_cases hd : l[0]? = some 46
    · -- a line with a dot
      have h0 : 0 < l.length := (List.getElem?_eq_some_iff.mp hd).1
      have hhit : Hit1 X.toArray (pre.length + u.length) := by
        refine ⟨hstart, ?_⟩
        have := hgetl 0 h0
        rw [Nat.add_zero] at this
        rw [this, hd]; rfl
      have hdl : dotted l = 46 :: l := by unfold dotted; rw [if_pos hd]
      obtain ⟨c, l', hll⟩ : ∃ c l', l = c :: l' := by cases l with | nil => cases h0 | cons c l' => exact ⟨c, l', rfl⟩
      have hc : c = 46 := by rw [hll] at hd; simpa using hd
      subst hc
      have go : ∀ {ps : List Str}, SubR c1 X.toArray (S [46, 46]) (pre.length + u.length + 1) ps → SubR c1 X.toArray (S [46, 46]) pre.length (cut X.toArray pre.length (pre.length + u.length) ++ S [46, 46] :: ps) := fun h =>
        SubR.go (n := 3 * X.toArray.size + 5) (a := pre.length + u.length) (e := pre.length + u.length + 1) hbig' (c1_search _ _ (some (_, _)) (by rw [hsz]; (first | lia | omega)) ⟨by (first | lia | omega), by rw [hsz]; (first | lia | omega), hu, hhit, rfl⟩) (by (first | lia | omega)) h
      have hcutu : flatS (cut X.toArray pre.length (pre.length + u.length)) = u := by
        rw [cut_flat _ (by (first | lia | omega)), hX', List.append_assoc, List.drop_left, Nat.add_sub_cancel_left, List.take_left]
      have hcl := cut_len X.toArray pre.length (pre.length + u.length)
      rcases hcase with ⟨h1, h2⟩ | ⟨h1, h2⟩
      · subst h1; subst h2
        refine ⟨_, go (SubR.stop hbig' (c1_search _ _ none (by rw [hsz]; (first | lia | omega)) fun i h1 h2 => hin i (by (first | lia | omega)) (by rw [hsz] at h2; simp at h2; (first | lia | omega)))), ?_, ?_⟩
        · unfold flatS at hcutu ⊢
          rw [List.flatMap_append, List.flatMap_cons, hcutu]
          have := cut_flat X (a := pre.length + u.length + 1) (b := X.toArray.size) (by rw [hsz]; (first | lia | omega))
          unfold flatS at this
          rw [this, hX', hll]
          have e1 : (pre ++ u ++ (46 :: l' ++ [])).drop (pre.length + u.length + 1) = l' := by
            rw [List.append_nil, show pre ++ u ++ 46 :: l' = (pre ++ u ++ [46]) ++ l' by simp, show pre.length + u.length + 1 = (pre ++ u ++ [46]).length by simp; (first | lia | omega), List.drop_left]
          rw [e1, List.take_of_length_le (by simp; (first | lia | omega))]
          rw [hll] at hdl
          simp [glue, hdl]
        · have := cut_len X.toArray (pre.length + u.length + 1) X.toArray.size
          simp only [List.length_append, List.length_cons, List.length_nil]; (first | lia | omega)
      · have hX2 : pre ++ u ++ [46] ++ (l' ++ [13, 10]) ++ glue [13, 10] ls = X := by rw [hX', hll, h2]; simp
        obtain ⟨ps, a1, a2, a3⟩ := dots_ok ls (pre ++ u ++ [46]) (l' ++ [13, 10]) h1 (fun y hy => hl y (.tail _ hy)) (.inr ⟨pre ++ u ++ [46] ++ l' ++ [13], by simp⟩) (by rw [hX2]; exact hbig) (by
          rw [hX2]
          intro i i1 i2
          simp only [List.length_append, List.length_cons, List.length_nil] at i1 i2
          have hlen : l.length = l'.length + 1 := by rw [hll]; rfl
          by_cases hi : i < pre.length + u.length + l.length + 1
          · exact hin i (by (first | lia | omega)) hi
          · exact hcr h1 i (by (first | lia | omega)) (by (first | lia | omega)))
        rw [hX2] at a1
        have hp : (pre ++ u ++ [46]).length = pre.length + u.length + 1 := by simp; (first | lia | omega)
        rw [hp] at a1
        refine ⟨_, go a1, ?_, ?_⟩
        · unfold flatS at hcutu a2 ⊢
          rw [List.flatMap_append, List.flatMap_cons, hcutu, a2, List.map_cons, hdl, glue_cons (by simpa using h1), hll]
          simp
        · simp only [List.length_append, List.length_cons, List.length_nil] at a3 ⊢; (first | lia | omega)
    · -- a line without
      have hnb : 0 < l.length → ¬ Hit1 X.toArray (pre.length + u.length) := fun h0 hh => by
        have h5 := hh.2
        have h6 := hgetl 0 h0
        rw [Nat.add_zero] at h6
        rw [h6, List.getElem?_eq_getElem h0] at h5
        exact hd (by rw [List.getElem?_eq_getElem h0]; exact congrArg some h5)
      have hdl : dotted l = l := by unfold dotted; rw [if_neg hd]
      rcases hcase with ⟨h1, h2⟩ | ⟨h1, h2⟩
      · subst h1; subst h2
        refine ⟨_, SubR.stop hbig' (c1_search _ _ none (by rw [hsz]; (first | lia | omega)) fun i h1 h2 => ?_), ?_, ?_⟩
        · rw [hsz, List.length_nil] at h2
          rcases Nat.lt_trichotomy i (pre.length + u.length) with h | h | h
          · exact hu i h1 h
          · rw [h]; exact hnb (by (first | lia | omega))
          · exact hin i h (by (first | lia | omega))
        · rw [cut_flat _ (by rw [hsz]; (first | lia | omega)), hX', List.append_nil, List.append_assoc, List.drop_left, List.take_of_length_le (by simp)]
          simp [glue, hdl]
        · have := cut_len X.toArray pre.length X.toArray.size
          simp only [List.length_cons, List.length_nil]; (first | lia | omega)
      · have hX2 : pre ++ (u ++ l ++ [13, 10]) ++ glue [13, 10] ls = X := by rw [hX', h2]; simp
        obtain ⟨ps, a1, a2, a3⟩ := dots_ok ls pre (u ++ l ++ [13, 10]) h1 (fun y hy => hl y (.tail _ hy)) (.inr ⟨pre ++ (u ++ l ++ [13]), by simp⟩) (by rw [hX2]; exact hbig) (by
          rw [hX2]
          intro i i1 i2
          simp only [List.length_append, List.length_cons, List.length_nil] at i1 i2
          rcases Nat.lt_trichotomy i (pre.length + u.length) with h | h | h
          · exact hu i i1 h
          · by_cases h0 : 0 < l.length
            · rw [h]; exact hnb h0
            · exact hcr h1 i (by (first | lia | omega)) (by (first | lia | omega))
          · by_cases hi : i < pre.length + u.length + l.length + 1
            · exact hin i h hi
            · exact hcr h1 i (by (first | lia | omega)) (by (first | lia | omega)))
        rw [hX2] at a1
        refine ⟨ps, a1, ?_, ?_⟩
        · rw [a2, List.map_cons, hdl, glue_cons (by simpa using h1)]
          simp
        · simp only [List.length_cons]; (first | lia | omega)
end Mine
open PySem PySem.Calls PyProof.Rows PySem.W
set_option Elab.async false
set_option autoImplicit false
set_option linter.unusedVariables false
namespace Mine
section
variable {S : Sys} {sc : Scope} {ns : List Str} {base : Heap} {env : Env} {s s' s0 : Shared} {ρ : Ro} {rt : Nat → Addr} {b : Bool} {d : Nat} {q : Md} {p p1 p2 p' : PV} {mg mb : Str → Option Value}

theorem Ev.gconst {f : Str} {fv : Value} {np : Pos} (n : GName S sc f fv) (hr : ∀ h, Rp S h fv p []) (hd : (f == ("__debug__" : Str)) = false := by decide) : Ev S sc ns b d q ρ (.Name f np) p := by
  intro A base env s rt Q R F hQ
  exact n.eval F (hQ fv s [] (Kp.refl F.gd) (hr _) MdOk.nil) hd

theorem IsPat.at {h : Heap} {pa : Addr} {code : Array Nat} (G0 : Gd S S.hT) (G : Gd S h) (x : IsPat S.hT pa code) : IsPat h pa code := by
  obtain ⟨o, fs, T, o', items, n, h1, h2, h3, h4, h5, h6, h7, h8, h9, h10, h11⟩ := x.ex
  refine ⟨o, fs, T, o', items, n, G.top _ _ (fun hm => ?_) h1, h2, h3, h4, h5, h6, h7, G.top _ _ (fun hm => ?_) h8, h9, h10, h11⟩
  · obtain ⟨y, e⟩ := tb_data G0.tab hm
    rw [h1] at e; cases e
    cases h2
  · obtain ⟨y, e⟩ := tb_data G0.tab hm
    rw [h8] at e; cases e; cases h10

theorem join0 (ps : List Str) : Txt.join ⟨#[]⟩ ps = Mine.S (flatS ps) := by
  have e : ps = (ps.map (·.cps.toList)).map Mine.S := by
    rw [List.map_map]
    conv => lhs; rw [← List.map_id ps]
    refine List.map_congr_left fun x _ => ?_
    exact (S_toList x).symm
  have g : ∀ ls : List (List Nat), glue [] ls = ls.flatten := fun ls => by
    induction ls with
    | nil => rfl
    | cons l r ih =>
      cases r with
      | nil => simp [glue]
      | cons m r => rw [glue_cons (by simp), ih]; simp
  have := join_glue [] (ps.map (·.cps.toList))
  rw [← e, g] at this
  exact this.trans (by unfold flatS; rw [List.flatMap_def])

theorem flatS_len (ps : List Str) : (ps.map (·.length)).sum = (flatS ps).length := by
  induction ps with
  | nil => rfl
  | cons x r ih =>
    unfold flatS at ih ⊢
    rw [List.map_cons, List.sum_cons, ih, List.flatMap_cons, List.length_append]
    rfl

theorem Ev.patSub {g : Str} {pa : Addr} {code : Array Nat} {np apos pos : Pos} {e1 e2 : Expr} {rp x : Str} {ps : List Str} {y : List Nat} {q1 : Md} (W : S.Ok mg mb) (n : GName S sc g (.ref pa)) (hpat : IsPat S.hT pa code)
    (ha : Evs S sc ns b d q1 ρ [e1, e2] [.str rp, .str x]) (hrp : rp.cps.contains 92 = false) (hx : x.cps.size ≤ sizeLine) (sub : SubR code x.cps rp 0 ps) (hlen : ps.length ≤ sizeLine) (hy : flatS ps = y) (hsum : y.length ≤ 16777216)
    (hd : (g == ("__debug__" : Str)) = false := by decide)
    (hbase : ∀ env t, attributeBase (.Name g np) "sub" env t = t := by intro _ _; rfl)
    (hfew : ∀ env, ((backTo pos (starEach [e1, e2] env)).all (fun x => !x.1) && (backToKw pos (keywordEach [] env)).all (fun x => x.1.isSome)
      && decide ([e1, e2].length + ([] : List Keyword).length + (if ([] : List Keyword).isEmpty then 0 else 1) < 30)) = true := by intro _; rfl)
    (hline : (apos.endLine == pos.line) = true := by rfl)
    (he : ∀ env, starEach [e1, e2] env = (false, eval e1 env) :: starEach [e2] env := by intro _; rfl)
    (hp : ∀ env, (backTo pos (starEach [e1, e2] env)).any (·.1) = false := by intro _; rfl) :
    Ev S sc ns b d q ρ (.Call (.Attribute (.Name g np) "sub" apos) [e1, e2] [] pos) (.str (Mine.S y)) := by
  intro A base env s rt Q R F hQ
  refine wpAny_Call_method (T := "re.Pattern") (id := "re.Pattern.sub") (hbase env _) (hfew env) hline plainAttrs_pat slot_pat_sub type_pat_sub (n.eval F ?_ hd)
  have P := IsPat.at W.gdT F.gd hpat
  refine ⟨?_, ?_, callWith_builtin (hp env) ?_⟩
  · obtain ⟨o, fs, T, o', items, n, h1, h2, _⟩ := P.ex
    exact ⟨o, h1, h2⟩
  · rintro a ⟨⟩
    obtain ⟨o, fs, T, o', items, n, h1, h2, h3, _⟩ := P.ex
    exact ⟨o, h1, h3⟩
  have hb : backTo pos (starEach [e1, e2] env) = (false, eval e1 env) :: backTo pos (starEach [e2] env) := by rw [he env]; rfl
  have := ha A base env s rt pos (fun vs s' => wpAny (model S.prog S.w) A (PySem.call (.builtin "re.Pattern.sub") ([.ref pa] ++ vs) []) Q No s') R F fun vs s' fp k r _ => ?_
  · rw [hb] at this ⊢
    exact evalArgs_plain this
  · obtain ⟨v1, v2, f1, f2, rfl, rfl, r1, r2⟩ := r.two
    (first | obtain ⟨_, rfl, rfl⟩ := r1.inv | cases r1); (first | obtain ⟨_, rfl, rfl⟩ := r2.inv | cases r2)
    refine sub_ok (IsPat.at W.gdT k.gd hpat) hrp hx sub hlen (by rw [flatS_len, hy]; exact hsum) fun t' h' tk' kk => ?_
    rw [join0, hy]
    exact hQ _ _ [] (k.trans (Kp.of_keeps k.gd kk)) (.str _ _) MdOk.nil
end
end Mine
open PySem PySem.Calls PyProof.Rows PySem.W
set_option Elab.async false
set_option autoImplicit false
set_option linter.unusedVariables false
namespace Mine
section
variable {S : Sys} {sc : Scope} {ns : List Str} {base : Heap} {env : Env} {s s' s0 : Shared} {ρ : Ro} {rt : Nat → Addr} {b : Bool} {d : Nat} {q : Md} {p p1 p2 p' : PV} {mg mb : Str → Option Value}

theorem strsFrom_are : ∀ (l : List Str) (n : Nat), StrsAre (strsFrom n l) l
  | [], _ => .nil
  | x :: l, n => .cons x n (strsFrom_are l (n + 1))

theorem c_split {x y : Str} {ls : List Str} (hy : (y.length == 0) = false) (hl : Txt.split x y = ls) (hx : x.length ≤ sizeLine) (hn : ls.length ≤ sizeLine) : CallOk S b d (.builtin "str.split") [.str x, .str y] (.strs ls) := by
  intro A s vs fp Q R G r h
  obtain ⟨v1, v2, f1, f2, rfl, rfl, r1, r2⟩ := r.two
  (first | obtain ⟨_, rfl, rfl⟩ := r1.inv | cases r1); rename_i t; (first | obtain ⟨_, rfl, rfl⟩ := r2.inv | cases r2); rename_i u
  unfold Txt.split at hl
  cases h1 : (decide (x.length < y.length) || decide (Builtin.Str.strKind x < Builtin.Str.strKind y))
  · cases hf : (Builtin.Str.occurrences x y 0 x.length (x.length + 1)).isEmpty
    · rw [if_neg (ne_true_of_eq_false h1), if_neg (ne_true_of_eq_false hf)] at hl
      refine call_meets F.slot_str_split (typeIs_str _ _ _) F.entry_str_split (F.args_str_split_2 _ _) (meets_str_split_sep x y t u h1 hy hf hx (by rw [hl]; exact hn)) ?_
      rw [hl]
      exact h.list G (Rps.ofStrs (strsFrom_are ls s.toks)) _
    · rw [if_neg (ne_true_of_eq_false h1), if_pos hf] at hl
      subst hl
      exact call_meets F.slot_str_split (typeIs_str _ _ _) F.entry_str_split (F.args_str_split_2 _ _) (meets_str_split_not_found x y t u h1 hy hf) (h.list G (Rps.ofStrs (.cons x t .nil)))
  · rw [if_pos h1] at hl
    subst hl
    exact call_meets F.slot_str_split (typeIs_str _ _ _) F.entry_str_split (F.args_str_split_2 _ _) (meets_str_split_cannot_occur x y t u h1) (h.list G (Rps.ofStrs (.cons x t .nil)))

theorem fold_rep (v : Value) : ∀ (k : Nat) (acc : Array Value), List.foldl (fun x1 x2 => x1 ++ x2) acc (List.replicate k #[v]) = acc ++ (List.replicate k v).toArray
  | 0, acc => by simp
  | k + 1, acc => by
    rw [List.replicate_succ, List.foldl_cons, fold_rep v k, List.replicate_succ]
    apply Array.toList_inj.mp; simp
theorem Rps.rep {h : Heap} {v : Value} (r : Rp S h v p []) : ∀ k, Rps S h (List.replicate k v) (List.replicate k p) []
  | 0 => .nil
  | k + 1 => by rw [List.replicate_succ, List.replicate_succ]; exact .cons (f1 := []) r (Rps.rep r k)

theorem o_lmul {n : Int} (ha : p.atom = true) (h0 : 0 ≤ n) (hn : n ≤ 2 ^ 24) : Op2 S b d (binaryOp .Mult) (.list [p]) (.int n) (.list (List.replicate n.toNat p)) := by
  intro A s v1 v2 f1 f2 Q R G r1 r2 h
  (first | obtain ⟨_, rfl, rfl⟩ := r2.inv | cases r2); rename_i u
  cases r1 with
  | @list l vs _ g1 _ l2 l3 =>
  obtain ⟨v, rfl, rv⟩ := l3.one
  have e0 := rv.atomNil ha
  subst e0
  obtain ⟨k, hl⟩ := id l2
  refine wpAny_binaryOp_repeat_ref (T := "list") (U := "int") (by decide) ⟨_, hl, rfl⟩ (fun s' => typeIs_int s' n u) noFill_list_mul F.fills_int_mul F.slot_int_rmul repeat_list F.slot_int_index.lookup
    (call_meets F.slot_int_rmul (typeIs_int s n u) F.entry_int_rmul (F.args_int_rmul_2 _ _) (int___rmul___int_list n u l [v].toArray k)
      ⟨hl, rfl, ⟨_, hl, rfl⟩, call_meets F.slot_list_mul ⟨_, hl, rfl⟩ F.entry_list_mul (F.args_list_mul_2 _ _)
        (AutoListH.list___mul___list_int_3 l [v].toArray k n u (by simp [Builtin.List.listFitsIndex]; (first | lia | omega)) (by simp; (first | lia | omega)) (by simp [Builtin.List.listTooLong, sizeLine]; (first | lia | omega)))
        ⟨hl, ?_⟩⟩)
  have e : (List.foldl (fun x1 x2 => x1 ++ x2) #[] (List.replicate (if ([v].toArray).isEmpty = true then 0 else n.toNat) [v].toArray)) = (List.replicate n.toNat v).toArray := by
    have := fold_rep v n.toNat #[]
    simpa using this
  rw [e]
  exact h.list G (Rps.rep rv n.toNat)

theorem c_list {ps : List PV} (ha : ps.all (·.atom) = true) (hn : ps.length ≤ sizeLine) : CallOk S b d (.type "list") [.list ps] (.list ps) := by
  intro A s vs fp Q R G r h
  obtain ⟨v, rfl, r'⟩ := r.one
  cases r' with
  | @list l vs _ g1 _ l2 l3 =>
  have e0 := l3.allAtoms ha
  subst e0
  obtain ⟨n, hl⟩ := id l2
  refine call_list_seq (hsz := by rw [List.size_toArray, l3.length]; exact hn) l (.inl rfl) hl rfl rfl fun h' c' hk hD => ?_
  have hsz : s.heap.objs.size ∉ S.TB := fun hm => by obtain ⟨x, e⟩ := tb_data G.tab hm; rw [fresh_size] at e; cases e
  exact h _ _ [s.heap.objs.size] (Kp.of_keeps G hk) (.list hsz ⟨c', hD⟩ (l3.mono fun y hy => by cases hy)) fun y hy => by
    cases hy with
    | head => exact fresh_size _
    | tail _ h => cases h

theorem Ev.frozen {e : Expr} (i : Nat) (hρ : ρ[i]? = some (some (p1, .mut))) (hq : q ≠ .N) (h : Ev S sc ns b d q (ρ.set i (some (p1, .frz))) e p) : Ev S sc ns b d q ρ e p := by
  intro A base env s rt Q R F hQ
  have li : i < ρ.length := (List.getElem?_eq_some_iff.mp hρ).1
  refine h A base env s rt Q R (F.recolour hρ (by intro h; cases h) (by intro h; cases h)) fun v s' fp k r m => hQ v s' fp k r ?_
  cases q with
  | R => trivial
  | N => exact absurd rfl hq
  | F => exact m
  | C =>
    intro x hx
    obtain ⟨m1, m2, m3⟩ := m x hx
    refine ⟨m1, m2, fun j q' k' e' hk' => ?_⟩
    by_cases hji : j = i
    · subst hji
      rw [hρ] at e'; cases e'
      exact m3 j _ .frz (by rw [List.getElem?_set_self li]) (by intro h; cases h)
    · exact m3 j q' k' (by rw [getElem?_set_ne' hji]; exact e') hk'

theorem S1.unpack2 {x y : Str} {px py tp pos : Pos} {tk : Nat} {value : Expr} {Φ : Out → Prop} {q1 : Md} (i j : Nat) (hn : ns[i]? = some x) (hn' : ns[j]? = some y) (h : Ev S sc ns b d q1 ρ value (.tup [p1, p2])) (h1 : p1.atom = true) (h2 : p2.atom = true)
    (hΦ : Φ (.next ((ρ.set i (some (p1, .imm))).set j (some (p2, .imm))))) (nd : ns.Nodup) (hk : locCell sc x = true) (hk' : locCell sc y = true)
    (hs : ∀ env, swapsWithSole [.Tuple [.Name x px, .Name y py] tk tp] value pos.line env = pure false := by intro _; rfl)
    (hw : ∀ env, swappedStores [.Tuple [.Name x px, .Name y py] tk tp] value env = pure none := by intro _; rfl) :
    S1 S sc ns b d ρ (.Assign [.Tuple [.Name x px, .Name y py] tk tp] value pos) Φ := by
  intro A base env s rt Q R F hQ
  refine Assign_Tuple (h A base env s rt _ R F fun v s1 fp k1 r1 _ => ?_) (hs env) (hw env)
  cases r1 with
  | @tup a vs _ fp g1 g2 g3 =>
  obtain ⟨v1, v2, f1, f2, rfl, rfl, r1, r2⟩ := g3.two
  have e1 := r1.atomNil h1
  have e2 := r2.atomNil h2
  subst e1; subst e2
  refine wpAny_assign_Tuple R.hd g2 rfl rfl fun h' hx => ?_
  have kk : ∀ z o, s1.heap.get? z = some o → h'.get? z = some o := fun z o e => hx z o (fresh_ne e) e
  have k2 : Kp S b s { s1 with heap := h' } := k1.trans (Kp.of_keeps k1.gd kk)
  show wpAny _ A (do holding [v2] (PySem.assign (.Name x px) env v1); holding [] (PySem.assign (.Name y py) env v2); pure ()) _ _ _
  refine wpAny_bind (wpAny_holding (assign_Name ?_))
  refine store_ok F k2 nd hn (locCell_or hk) (rt' := rt) (k := .imm) ⟨r1.mono fun z hz => (by cases hz), fun _ _ => rfl, fun z hz => (by cases hz), fun _ _ _ _ _ _ hm => (by cases hm), fun hh => absurd rfl hh⟩ fun s3 n3 => ?_
  obtain ⟨st3, rt3, ro3, F3⟩ := n3
  refine wpAny_bind (wpAny_holding (assign_Name ?_))
  refine store_ok (b := b) F3 (Kp.refl F3.gd) nd hn' (locCell_or hk') (rt' := rt3) (k := .imm) ⟨r2.mono fun z hz => (by cases hz), fun _ _ => rfl, fun z hz => (by cases hz), fun _ _ _ _ _ _ hm => (by cases hm), fun hh => absurd rfl hh⟩ fun s4 n4 => ?_
  exact wpAny_pure (hQ _ .next s4 hΦ ⟨rfl, NextIs.trans st3 ro3 n4⟩)

/-! dicts of texts, written -/
noncomputable def dkeys (ks : List Str) (k : Str) : List Str := if ks.any (fun x => decide (x = k)) then ks else ks ++ [k]
noncomputable def dput (ks : List Str) (ps : List PV) (k : Str) (p : PV) : List PV := if ks.any (fun x => decide (x = k)) then List.zipWith (fun x w => if x = k then p else w) ks ps else ps ++ [p]

theorem Rps.zipW {h : Heap} {v : Value} {k : Str} {f : List Addr} (rv : Rp S h v p f) : ∀ {ks : List Str} {vs : List Value} {ps : List PV} {fp : List Addr}, Rps S h vs ps fp →
    ∃ fp', Rps S h (List.zipWith (fun x w => if x = k then v else w) ks vs) (List.zipWith (fun x w => if x = k then p else w) ks ps) fp' ∧ ∀ y ∈ fp', y ∈ fp ∨ y ∈ f
  | [], _, _, _, _ => ⟨[], .nil, fun y hy => by cases hy⟩
  | _ :: _, _, _, _, .nil => ⟨[], .nil, fun y hy => by cases hy⟩
  | x :: ks, _, _, _, .cons (f1 := f1) a r => by
    obtain ⟨fp', r', hf⟩ := Rps.zipW rv (ks := ks) r
    by_cases hx : x = k
    · refine ⟨f ++ fp', ?_, fun y hy => ?_⟩
      · simp only [List.zipWith_cons_cons, hx, if_true]
        exact .cons rv r'
      · rcases List.mem_append.mp hy with hy | hy
        · exact .inr hy
        · exact (hf y hy).imp (fun h => List.mem_append_right _ h) id
    · refine ⟨f1 ++ fp', ?_, fun y hy => ?_⟩
      · simp only [List.zipWith_cons_cons, hx, if_false]
        exact .cons a r'
      · rcases List.mem_append.mp hy with hy | hy
        · exact .inl (List.mem_append_left _ hy)
        · exact (hf y hy).imp (fun h => List.mem_append_right _ h) id

theorem map_zipW {k : Str} {v : Value} : ∀ (ks : List Str) (vs : List Value), (ks.zip vs).map (fun kv => if kv.1 = k then (kv.1, v) else kv) = ks.zip (List.zipWith (fun x w => if x = k then v else w) ks vs)
  | [], _ => rfl
  | _ :: _, [] => rfl
  | x :: ks, w :: vs => by
    simp only [List.zip_cons_cons, List.map_cons, List.zipWith_cons_cons, map_zipW ks vs]
    by_cases hx : x = k <;> simp [hx]

noncomputable def dvals (ks : List Str) (vs : List Value) (k : Str) (v : Value) : List Value := if ks.any (fun x => decide (x = k)) then List.zipWith (fun x w => if x = k then v else w) ks vs else vs ++ [v]

theorem stored_zip {k : Str} {v : Value} {ks : List Str} {vs : List Value} (e : ks.length = vs.length) : stored (ks.zip vs) k v = (dkeys ks k).zip (dvals ks vs k v) := by
  have ea : (ks.zip vs).any (fun kv => decide (kv.1 = k)) = ks.any (fun x => decide (x = k)) := by
    have : (ks.zip vs).map (·.1) = ks := List.map_fst_zip (by (first | lia | omega))
    conv => rhs; rw [← this]
    rw [List.any_map]; rfl
  unfold stored dkeys dvals
  rw [ea]
  split
  · exact map_zipW ks vs
  · rw [List.zip_append e]; rfl
theorem dvals_len {k : Str} {v : Value} {ks : List Str} {vs : List Value} (e : ks.length = vs.length) : (dkeys ks k).length = (dvals ks vs k v).length := by
  unfold dkeys dvals
  split
  · rw [List.length_zipWith]; (first | lia | omega)
  · simp [e]
theorem Rps.dput {h : Heap} {v : Value} {k : Str} {f : List Addr} (rv : Rp S h v p f) {ks : List Str} {vs : List Value} {ps : List PV} {fp : List Addr} (r : Rps S h vs ps fp) :
    ∃ fp', Rps S h (dvals ks vs k v) (Mine.dput ks ps k p) fp' ∧ ∀ y ∈ fp', y ∈ fp ∨ y ∈ f := by
  unfold dvals Mine.dput
  split
  · exact Rps.zipW rv r
  · refine ⟨fp ++ (f ++ []), r.append (.cons rv .nil), fun y hy => ?_⟩
    rw [List.append_nil] at hy
    exact List.mem_append.mp hy

theorem S1.dput {x : Str} {xp sp pos : Pos} {ie value : Expr} {ks : List Str} {ps : List PV} {k : Str} {Φ : Out → Prop} {q2 : Md} (i : Nat) (hn : ns[i]? = some x) (hρ : ρ[i]? = some (some (.dict ks ps, .mut)))
    (hv : Ev S sc ns b d .F ρ value p) (hi : Ev S sc ns b d q2 ρ ie (.str k)) (hfl : (PV.dict (dkeys ks k) (Mine.dput ks ps k p)).flat = true) (hsz : ks.length ≤ sizeLine)
    (hΦ : Φ (.next (ρ.set i (some (.dict (dkeys ks k) (Mine.dput ks ps k p), .mut))))) (hd : (x == ("__debug__" : Str)) = false := by decide)
    (hs : ∀ env, swapsWith value (some (.Subscript (.Name x xp) ie sp)) pos.line env = pure false := by intro _; rfl) :
    S1 S sc ns b d ρ (.Assign [.Subscript (.Name x xp) ie sp] value pos) Φ := by
  intro A base env s rt Q R F hQ
  refine wpAny_Assign_Subscript (hv A base env s rt _ R F fun v s1 f1 k1 r1 m1 => ?_) (hs env)
  have F1 := F.kp k1
  obtain ⟨w, fp, V⟩ := F1.vars i x _ _ hn hρ
  obtain ⟨w0, fp0, V0⟩ := F.vars i x _ _ hn hρ
  refine Var.name F1 V hd ?_
  obtain ⟨v1, _⟩ := V.own (by intro h; cases h)
  subst v1
  refine hi A base env s1 rt _ R F1 fun v2 s2 f2 k2 r2 _ => ?_
  (first | obtain ⟨_, rfl, rfl⟩ := r2.inv | cases r2)
  obtain ⟨w1, w2, _, fp0', w6, w7⟩ := V0.own (by intro h; cases h)
  subst w1
  have k12 := k1.trans k2
  have rp0 := V0.rp
  cases rp0 with
  | @dict _ _ vs _ fpl g1 g2 g3 g4 g5 =>
  have g4' : s2.heap.DictOf (strKind S.prog S.w) (rt i) (ks.zip vs) := g4.at fun o e => k12.keep _ o g1 e
  have old : Rps S s2.heap vs ps fpl := g5.mono fun y hy o e => k12.keep y o (g5.lives y hy).1 e
  refine wpAny_setItem_pairs (strKind_is _ _ k _) g4' (fun h' hm hs' => ?_) (by rw [List.length_zip]; (first | lia | omega))
  rw [stored_zip g3] at hm
  obtain ⟨fpn, rn, hfn⟩ := Rps.dput (k := k) (ks := ks) (r1.kp k2) old
  obtain ⟨ob0, _, _, eob, _⟩ := id g4
  have neA : ∀ y ∈ fpn, y ≠ rt i := fun y hy e => by
    subst e
    rcases hfn _ hy with h | h
    · exact w7 ((List.cons.inj w6).2 ▸ h)
    · have := m1 _ h; rw [eob] at this; cases this
  have rn' : Rps S h' (dvals ks vs k v) (Mine.dput ks ps k p) fpn := rn.mono fun y hy o e => (hs'.2 y (neA y hy)).trans e
  have rd : Rp S h' (.ref (rt i)) (.dict (dkeys ks k) (Mine.dput ks ps k p)) (rt i :: fpn) := .dict g1 g2 (dvals_len g3) hm rn'
  obtain ⟨a, fpx, ea, efp, hnin, ob, eo, ed, ef⟩ := rd.flatRoot hfl
  cases ea
  exact hQ _ .next _ hΦ ⟨rfl, F.mutated k12 hn hρ V0 hs' rd ((List.cons.inj efp).2 ▸ hnin) (fun y hy => (hfn y hy).imp (fun h => List.mem_cons_of_mem _ h) (fun h => m1 y h)) ⟨ob, eo, ed, ef⟩ _⟩

theorem Ev.dict1 {ke ve : Expr} {pos : Pos} {k : Str} {q1 : Md} (W : S.Ok mg mb) (hk : Ev S sc ns b d q1 ρ ke (.str k)) (hv : Ev S sc ns b d .F ρ ve p) : Ev S sc ns b d q ρ (.Dict [some ke] [ve] pos) (.dict [k] [p]) := by
  intro A base env s rt Q R F hQ
  have kp0 : Kp S b s { s with heap := s.heap.push { cls := .type "dict", data := .dict #[] } } := Kp.of_keeps (tk := s.toks) F.gd (Heap.push_keeps _)
  have fresh : s.heap.get? s.heap.objs.size = none := fresh_size _
  have hTB : s.heap.objs.size ∉ S.TB := fun hm => by obtain ⟨x, e⟩ := tb_data F.gd.tab hm; rw [fresh] at e; cases e
  refine wpAny_Dict_pairs (knd := strKind S.prog S.w) (pairs := [(eval ke env, do let x ← eval ve env; standAt pos; pure x)]) rfl (by simp) (by simp) ?_
  refine evalPairs_cons (hk A base env _ rt _ R (F.kp kp0) fun v1 s1 f1 k1 r1 _ => ?_)
  refine wpAny_bind (hv A base env s1 rt _ R ((F.kp kp0).kp k1) fun v2 s2 f2 k2 r2 m2 => ?_)
  refine wpAny_bind (wpAny_standAt (wpAny_pure ?_))
  refine evalPairs_nil ?_
  (first | obtain ⟨_, rfl, rfl⟩ := r1.inv | cases r1)
  have k12 := k1.trans k2
  have hD : s2.heap.DictOf (strKind S.prog S.w) s.heap.objs.size [] := (Heap.DictOf.new s.heap).at fun o e => k12.keep _ o hTB e
  refine ⟨[(k, v2)], ⟨strKind_is _ _ k _, rfl, trivial⟩, hD, fun h' hm hs' => ?_⟩
  have hm' : h'.DictOf (strKind S.prog S.w) s.heap.objs.size ([k].zip [v2]) := hm
  have k02 := kp0.trans k12
  have hnone : S.hT.get? s.heap.objs.size = none := by
    cases q : S.hT.get? s.heap.objs.size with
    | none => rfl
    | some o =>
      obtain ⟨o1, e1⟩ := F.top _ o q
      obtain ⟨o2, e2⟩ := F.alive _ o1 e1
      rw [fresh] at e2; cases e2
  obtain ⟨o0, es0, ep0, e0, x0, d0, _⟩ := id hD
  have g' : Gd S h' := k12.gd.sameBut hs' hnone (fun o e vs hd => by rw [e0] at e; cases e; rw [hd] at d0; cases d0) ⟨o0, e0⟩
  have m2' : ∀ y ∈ f2, s.heap.get? y = none := fun y hy => kp0.dead (k1.dead (m2 y hy))
  have neA : ∀ y ∈ f2, y ≠ s.heap.objs.size := fun y hy e => by
    subst e
    have h1 := m2 _ hy
    have h2 := k1.keep _ _ hTB (Heap.get?_push_size s.heap (o := { cls := .type "dict", data := .dict #[] }) rfl)
    rw [h1] at h2; cases h2
  have hsys : (s.heap.objs.size == sysModules) = false := by
    obtain ⟨m, n⟩ := F.ns1
    obtain ⟨oG, _, _, eG, _⟩ := W.g
    obtain ⟨o1, e1⟩ := F.top _ _ eG
    obtain ⟨o2, e2⟩ := F.alive _ o1 e1
    have := Heap.lt_size e2
    have hG : mainGlobals = 3 := rfl
    have hS : sysModules = 1 := rfl
    rw [hG] at this
    rw [hS]
    exact beq_eq_false_iff_ne.mpr (by intro h; rw [h] at this; exact absurd this (by decide))
  obtain ⟨h2, tk2, rfl, kk2, _⟩ := id k02
  refine hQ _ _ (s.heap.objs.size :: (f2 ++ [])) ?_ (.dict (vs := [v2]) hTB hsys rfl hm' (.cons (r2.mono fun y hy o e => (hs'.2 y (neA y hy)).trans e) .nil)) (MdOk.ofF F (fun y hy => ?_) q)
  · refine ⟨h', tk2 + 1, rfl, fun y o _ hb e => ?_, g'⟩
    rw [hs'.2 y (fresh_ne e)]
    exact kk2 y o id hb e
  · rw [List.append_nil] at hy
    rcases List.mem_cons.mp hy with rfl | hy
    · exact fresh
    · exact m2' y hy
end
end Mine
open PySem PySem.Calls PyProof.Rows PySem.W
set_option Elab.async false
set_option autoImplicit false
set_option linter.unusedVariables false
namespace Mine
section
variable {S : Sys} {sc : Scope} {ns : List Str} {base : Heap} {env : Env} {s s' s0 : Shared} {ρ : Ro} {rt : Nat → Addr} {b : Bool} {d : Nat} {q : Md} {p p1 p2 p' : PV} {mg mb : Str → Option Value}

structure Maker (S : Sys) (mg : Str → Option Value) (c : Addr) (t : Tab) : Prop where
  mem : t ∈ S.tabs
  inj : ∀ t' ∈ S.tabs, t'.P = t.P → t' = t
  hdr : ∀ h, Gd S h → CodeHd h c t.P
  bm : ∀ h, Gd S h → h.BuiltinsAt mg t.P
  gP : mainGlobals ≠ t.P

theorem push_fresh {h : Heap} {o : Obj} {a : Addr} {oa : Obj} (e : h.get? a = some oa) : (h.push o).get? a = some oa := Heap.get?_push_of_some _ e

noncomputable abbrev inFn (name qual : Str) (params : Arguments) (body : List Stmt) (scope : Scope) (clos : List (Str × Addr)) (doc pm cv ctv : Value) : Obj :=
  { cls := .type "function", data := .func (fnX name qual params body scope clos .none .none doc pm none cv ctv) }

theorem make_ok {M : Model} {A : Around} {E : Value → Shared → Prop} {c : Addr} {t : Tab} {name : Str} {params : Arguments} {body : List Stmt} {scope : Scope} {clos : List (Str × Addr)} {pos : Pos} {Q : Value → Shared → Prop}
    (W : S.Ok mg mb) (K : Maker S mg c t) (G : Gd S s.heap) (hge : env.globals = mainGlobals) (hcode : env.code = .ref c) (hcl : closureFor scope env = pure clos) (hline : t.line = pos.line) (hcol : t.col = pos.col)
    (h : ∀ f h' tk doc cv ctv, KeepB S false (fun _ => False) s.heap h' → Gd S h' → s.heap.get? f = none → f ∉ S.TB → h'.get? f = some (inFn name t.qual params body scope clos doc ((mg "__name__").getD .none) cv ctv) → h'.CodeRec cv t.qual → Q (.ref f) { s with heap := h', toks := tk }) :
    wpAny M A (makeFunction name t.qual params (.stmts body) scope env [] [] [] pos pos.line) Q E s := by
  obtain ⟨ps, e, r⟩ := G.tab t K.mem
  have PT : t.P ∈ S.TB := List.mem_map_of_mem K.mem
  have freshTB : ∀ {h' : Heap} {f : Addr}, Gd S h' → h'.get? f = none → f ∉ S.TB := fun g e hm => by obtain ⟨x, e'⟩ := tb_data g.tab hm; rw [e] at e'; cases e'
  rcases r with rfl | ⟨c', rfl, hrec⟩
  · refine makeFunction_K hcl hge (W.nsAt G W.g) hcode (K.hdr _ G) e trivial rfl K.gP (K.bm _ G) fun c' ctv doc h' tk hx hge' hlt hrec htb => ?_
    have neP : ∀ {x : Addr}, x ∉ S.TB → x ≠ t.P := fun hx e => hx (e ▸ PT)
    have fr : h'.get? h'.objs.size = none := fresh_size _
    have kp : KeepB S false (fun _ => False) s.heap h' := fun x o _ hb eo => hx x o (neP (hb.resolve_left (by intro h; cases h))) eo
    have g' : Gd S h' := by
      refine ⟨fun x o hb eo => hx x o (neP hb) (G.top x o hb eo), fun t' ht' => ?_⟩
      by_cases hp : t'.P = t.P
      · have := K.inj t' ht' hp
        subst this
        exact ⟨_, htb, .inr ⟨c', by rw [hline, hcol]; rfl, hrec⟩⟩
      · obtain ⟨ps', e', r'⟩ := G.tab t' ht'
        refine ⟨ps', hx _ _ hp e', r'.imp id fun ⟨c2, e2, e3⟩ => ⟨c2, e2, ?_⟩⟩
        obtain ⟨x, o, vs, tt, q1, q2, q3, q4⟩ := e3
        refine ⟨x, o, vs, tt, q1, hx _ _ (fun he => ?_) q2, q3, q4⟩
        rw [he, e] at q2; (first | obtain ⟨_, rfl, rfl⟩ := q2.inv | cases q2); (first | obtain ⟨_, rfl, rfl⟩ := q3.inv | cases q3); simp at q4
    have sfr : s.heap.get? h'.objs.size = none := by
      cases q : s.heap.get? h'.objs.size with
      | none => rfl
      | some o =>
        by_cases hp : h'.objs.size = t.P
        · rw [← hp, fr] at htb; cases htb
        · have := hx _ _ hp q; rw [fr] at this; cases this
    refine h h'.objs.size _ tk doc (.ref c') ctv (fun x o a b e => push_fresh (kp x o a b e)) (g'.keeps fun x o e => push_fresh e) sfr (freshTB g' fr) (Heap.get?_push_size _ rfl) (hrec.push _)
  · refine makeFunction_hit (cv := .ref c') hcl hge (W.nsAt G W.g) hcode (K.hdr _ G) e ?_ ?_ (K.bm _ G) fun ctv doc h' tk hk hsz => ?_
    · trivial
    · show codeAmong pos [rawInt t.line, rawInt t.col, .ref c'] = _
      unfold rawInt codeAmong
      rw [if_pos (by rw [hline, hcol]; simp)]
    · have fr : h'.get? h'.objs.size = none := fresh_size _
      have g' : Gd S h' := G.keeps hk
      have sfr : s.heap.get? h'.objs.size = none := by
        cases q : s.heap.get? h'.objs.size with
        | none => rfl
        | some o => have := hk _ _ q; rw [fr] at this; cases this
      exact h h'.objs.size _ tk doc (.ref c') ctv (fun x o a b e => push_fresh (hk x o e)) (g'.keeps fun x o e => push_fresh e) sfr (freshTB g' fr) (Heap.get?_push_size _ rfl) ((hrec.keeps hk).push _)

theorem Fm.cellStore {h h' : Heap} {x : Str} {c : Addr} {v : Option Value} (F : Fm S sc ns base env h ρ rt) (hc : env.cells.lookup x = some c) (hs : Heap.SameBut c h h') (hv : h'.IsCell c v)
    (hx : ∀ (i : Nat) (z : PV × Own), ns[i]? = some x → ρ[i]? ≠ some (some z)) : Fm S sc ns base env h' ρ rt := by
  have hco : isCellOf env c := ⟨x, hc⟩
  have hal : ∃ o', h'.get? c = some o' := let ⟨o, e, _⟩ := hv; ⟨o, e⟩
  obtain ⟨g, al⟩ := F.turn (.inr hco) hs hal
  have neL := isCellOf.ne F hco
  refine ⟨g, F.kind, F.kinds, F.glob, F.blt, F.top, al, F.nsB, ?_, fun c' hc' => ?_, F.cellInj, F.cellsAll, F.len, fun i y p k e1 e2 => ?_⟩
  · obtain ⟨m, n⟩ := F.ns1; exact ⟨m, n.sameBut hs (Ne.symm neL)⟩
  · obtain ⟨a, v', o, e, e'⟩ := F.cellB c' hc'
    by_cases hcc : c' = c
    · exact ⟨a, v, hcc ▸ hv⟩
    · exact ⟨a, v', o, (hs.2 c' hcc).trans e, e'⟩
  · obtain ⟨w, fp, V⟩ := F.vars i y p k e1 e2
    have hy : y ≠ x := fun he => hx i _ (he ▸ e1) e2
    have fpc : ∀ z ∈ fp, z ≠ c := fun z hz e => (V.loc z hz).2 (e ▸ hco)
    refine ⟨w, fp, ?_, V.rp.mono fun z hz o e => (hs.2 z (fpc z hz)).trans e, V.loc, fun hk => ?_, V.sep⟩
    · rcases V.rd with ⟨r1, m', r2, r3⟩ | ⟨r1, c', r2, o, r3, r4⟩
      · exact .inl ⟨r1, m', r2.sameBut hs (Ne.symm neL), r3⟩
      · have : c' ≠ c := fun e => hy (F.cellInj y x c (e ▸ r2) hc)
        exact .inr ⟨r1, c', r2, o, (hs.2 c' this).trans r3, r4⟩
    · obtain ⟨o1, o2, ⟨ob, o3, o4⟩, fp', o5, o6⟩ := V.own hk
      exact ⟨o1, o2, ⟨ob, (hs.2 _ (fpc _ (by rw [o5]; exact .head _))).trans o3, o4⟩, fp', o5, o6⟩
end
end Mine
open PySem PySem.Calls PyProof.Rows PySem.W
set_option Elab.async false
set_option autoImplicit false
set_option linter.unusedVariables false
namespace Mine
section
variable {S : Sys} {sc : Scope} {ns : List Str} {base : Heap} {env : Env} {s s' s0 : Shared} {ρ : Ro} {rt : Nat → Addr} {b : Bool} {d : Nat} {q : Md} {p p1 p2 p' : PV} {mg mb : Str → Option Value}

theorem lookup_of_mem {l : List (Str × Value)} (nd : (l.map (·.1)).Nodup) {x : Str} {v : Value} (h : (x, v) ∈ l) : l.lookup x = some v := by
  induction l with
  | nil => cases h
  | cons y l ih =>
    obtain ⟨k, w⟩ := y
    rw [List.lookup_cons]
    rw [List.map_cons, List.nodup_cons] at nd
    rcases List.mem_cons.mp h with e | h
    · cases e; simp
    · have : (x == k) = false := by
        refine beq_eq_false_iff_ne.mpr fun e => nd.1 ?_
        rw [← e]
        exact List.mem_map_of_mem (f := (·.1)) h
      rw [this]
      exact ih nd.2 h

theorem lookup_zip {pn : List Str} {vs : List Value} (nd : pn.Nodup) (hl : vs.length = pn.length) {i : Nat} {x : Str} {v : Value} (h1 : pn[i]? = some x) (h2 : vs[i]? = some v) : (pn.zip vs).reverse.lookup x = some v := by
  refine lookup_of_mem ?_ ?_
  · rw [List.map_reverse, List.map_fst_zip (by (first | lia | omega))]
    unfold List.Nodup
    rw [List.pairwise_reverse]
    exact nd.imp fun h => Ne.symm h
  · rw [List.mem_reverse]
    have : (pn.zip vs)[i]? = some (x, v) := by rw [List.getElem?_zip_eq_some]; exact ⟨h1, h2⟩
    exact List.mem_of_getElem? this

theorem store_loc {A : Around} {i : Nat} {x : Str} {v : Value} {Q : Unit → Shared → Prop} (F : Fm S sc ns base env s.heap ρ rt) (nd : ns.Nodup) (hn : ns[i]? = some x) (hk : sc.names.lookup x = some .local) (r : Rp S s.heap v p [])
    (h : ∀ h' tk rt', Heap.SameBut env.locals s.heap h' → Fm S sc ns base env h' (ρ.set i (some (p, .imm))) rt' → Q () { s with heap := h', toks := tk }) : wpAny (model S.prog S.w) A (storeName env x v) Q No s := by
  have kx := F.kindOf' _ hk (by intro h; cases h)
  obtain ⟨m, n⟩ := F.ns1
  refine wpAny_storeName_local kx n (fun h' n' hs => ?_) (by rw [F.kind]; rfl)
  have := F.stored (b := true) (Kp.refl F.gd) nd hn (rt' := rt) (k := .imm) ⟨r, fun _ _ => rfl, fun z hz => (by cases hz), fun _ _ _ _ _ _ hm => (by cases hm), fun hh => absurd rfl hh⟩ (.inl rfl) hs (.inl ⟨kx, _, n', by simp⟩) ⟨_, n'⟩ (fun c hc => ?_) (fun y w hy r => ?_) (s.toks + 1)
  · obtain ⟨_, rt', _, F'⟩ := this
    exact h h' _ rt' hs F'
  · obtain ⟨_, v, o, e, e2⟩ := F.cellB c hc
    exact ⟨v, o, (hs.2 c (isCellOf.ne F hc)).trans e, e2⟩
  · rcases r with ⟨r1, m', r2, r3⟩ | ⟨r1, c, r2, o, r3, r4⟩
    · refine .inl ⟨r1, _, n', ?_⟩
      have : m' y = m y := ns_unique r2 n y
      simp [hy, ← this, r3]
    · exact .inr ⟨r1, c, r2, o, (hs.2 c (isCellOf.ne F ⟨y, r2⟩)).trans r3, r4⟩

theorem call_named {A : Around} {f : Addr} {g : Str} {np pos : Pos} {e : Expr} {es : List Expr} {ps : List PV} {Q : Value → Shared → Prop} {q1 : Md} (R : Room d A) (F : Fm S sc ns base env s.heap ρ rt) (rd : Reads env s.heap g (.ref f)) (hf : FnAt f s.heap) (hTB : f ∉ S.TB)
    (ha : Evs S sc ns b d q1 ρ (e :: es) ps) (h : ∀ vs s' fp, Kp S b s s' → Rps S s'.heap vs ps fp → wpAny (model S.prog S.w) A (call (.ref f) vs) Q No s') (hd : (g == ("__debug__" : Str)) = false := by decide)
    (he : ∀ env, starEach (e :: es) env = (false, eval e env) :: starEach es env := by intro _; rfl) (hp : ∀ env, (backTo pos (starEach es env)).any (·.1) = false := by intro _; rfl) :
    wpAny (model S.prog S.w) A (eval (.Call (.Name g np) (e :: es) [] pos) env) Q No s := by
  refine wpAny_Call_NameR ?_
  have go : wpAny (model S.prog S.w) A (callWith pos (.ref f) [] (backTo pos (starEach (e :: es) env)) []) Q No s := by
    refine callWith_F hf (ha A base env s rt pos _ R F fun vs s' fp k r _ => ⟨?_, h vs s' fp k r⟩) (he env) (hp env)
    obtain ⟨oc, od, fd, sl, e⟩ := hf
    exact ⟨oc, od, fd, sl, k.keep _ _ hTB e⟩
  rcases rd with ⟨a, m, n, e⟩ | ⟨a, c, e, n⟩
  · exact wpAny_Name (wpAny_loadName_local F.kind a n e go) hd
  · exact wpAny_Name (loadCF F.kind a e n go) hd

theorem inner_call {A : Around} {f : Addr} {name qual : Str} {params : Arguments} {body : List Stmt} {scope : Scope} {clos : List (Str × Addr)} {doc pm cv ctv : Value} {pn fn rest : List Str} {ps qs : List PV} {vs : List Value} {fp : List Addr} {Q : Value → Shared → Prop}
    (W : S.Ok mg mb) (R : Room (d + 1) A) (G : Gd S s.heap) (hfn : s.heap.get? f = some (inFn name qual params body scope clos doc pm cv ctv)) (hcd : s.heap.CodeRec cv qual)
    (hbind : bindArgs (fnX name qual params body scope clos .none .none doc pm none cv ctv) ⟨vs, []⟩ = pure (pn.zip vs)) (hcell : ∀ x ∈ scope.names, x.2 ≠ .cell) (hloc : ∀ x ∈ pn, scope.names.lookup x = some .local)
    (hk : scope.kind = .function) (hco : scope.isCoroutine = false) (hgen : scope.isGenerator = false) (nd : (pn ++ fn ++ rest).Nodup) (hps : ps.length = pn.length) (r : Rps S s.heap vs ps fp) (hqs : qs.length = fn.length)
    (hcl : ∀ n c, clos.lookup n = some c → S.hT.get? c = none ∧ ∃ v, s.heap.IsCell c v) (hinj : ∀ n n' c, clos.lookup n = some c → clos.lookup n' = some c → n = n') (hfp : ∀ z ∈ fp, ∀ n, clos.lookup n ≠ some z)
    (hfree : ∀ (i : Nat) (x : Str) (p : PV), fn[i]? = some x → qs[i]? = some p → scope.names.lookup x = some .free ∧ (x == ("__classdict__" : Str)) = false ∧ ∃ c v fpv, clos.lookup x = some c ∧ s.heap.IsCell c (some v) ∧ Rp S s.heap v p fpv ∧ ∀ z ∈ fpv, ∀ n, clos.lookup n ≠ some z)
    (h : ∀ env h₀ tk, env.cells = clos → env.locals = s.heap.objs.size → (∀ a o, s.heap.get? a = some o → h₀.get? a = some o) → (∀ x, env.kindOf x = scope.names.lookup x) → Room d (A.deeper env) →
      Fm S scope (pn ++ fn ++ rest) S.hT env h₀ (ps.map (fun p => some (p, Own.imm)) ++ qs.map (fun p => some (p, Own.imm)) ++ List.replicate rest.length none) (fun _ => 0) →
      wpAny (model S.prog S.w) (A.deeper env) (execs body env) (fun f s' => Q (match f with | .ret v => v | _ => .none) s') No { s with heap := h₀, toks := tk }) :
    wpAny (model S.prog S.w) A (call (.ref f) vs) Q No s := by
  refine wpAny_call ?_
  have hvl : vs.length = pn.length := r.length.trans hps
  refine codeAny_call_def R.lt hfn rfl (W.lim G) hcd rfl (.of_eq hbind) hcell (fun x hx => hloc x.1 (List.of_mem_zip hx).1) (fun h₀ hns hkp => ?_) hco hgen hk
  generalize hen : callEnv (fnX name qual params body scope clos .none .none doc pm none cv ctv) s.heap.objs.size f = env
  have eS : env.scope = scope := by rw [← hen]; rfl
  have eL : env.locals = s.heap.objs.size := by rw [← hen]; rfl
  have eC : env.cells = clos := by rw [← hen]; rfl
  have kO : ∀ x, env.kindOf x = scope.names.lookup x := fun x => by unfold Env.kindOf; rw [eS]
  have R' : Room d (A.deeper env) := ⟨R.hd, by have := R.depth; show A.depth + 1 + d < _; (first | lia | omega), by have := R.units; show A.units + 3 + 4 * d + 120 < _; (first | lia | omega)⟩
  have fr : s.heap.get? s.heap.objs.size = none := fresh_size _
  have g₀ : Gd S h₀ := G.keeps hkp
  have isC : ∀ {c}, isCellOf env c → ∃ n, clos.lookup n = some c := fun ⟨n, e⟩ => ⟨n, eC ▸ e⟩
  have impl : ∀ {i : Nat} {p : PV} {k : Own}, (ps.map (fun p => some (p, Own.imm)) ++ qs.map (fun p => some (p, Own.imm)) ++ List.replicate rest.length none)[i]? = some (some (p, k)) → k = .imm ∧ (ps ++ qs)[i]? = some p := fun {i p k} e => by
    rw [← List.map_append] at e
    rcases Nat.lt_or_ge i (ps ++ qs).length with h | h
    · rw [List.getElem?_append_left (by simpa using h), List.getElem?_map] at e
      cases hp : (ps ++ qs)[i]? with
      | none => rw [hp] at e; cases e
      | some z => rw [hp] at e; cases e; exact ⟨rfl, rfl⟩
    · rw [List.getElem?_append_right (by simpa using h)] at e
      have := List.mem_of_getElem? e
      rw [List.mem_replicate] at this
      cases this.2
  have sepOk : ∀ {fp : List Addr} {i : Nat}, ∀ j q k', (ps.map (fun p => some (p, Own.imm)) ++ qs.map (fun p => some (p, Own.imm)) ++ List.replicate rest.length none)[j]? = some (some (q, k')) → k' ≠ Own.imm → j ≠ i → (fun _ : Nat => (0 : Addr)) j ∉ fp := fun j q k' e hk' _ => absurd (impl e).1 hk'
  have F : Fm S scope (pn ++ fn ++ rest) S.hT env h₀ (ps.map (fun p => some (p, Own.imm)) ++ qs.map (fun p => some (p, Own.imm)) ++ List.replicate rest.length none) (fun _ => 0) := by
    refine ⟨g₀, by rw [eS]; exact hk, fun x => .inl (kO x), by rw [← hen]; rfl, by rw [← hen]; rfl, fun b o e => ⟨o, e⟩, TabOk.alive g₀ g₀.top, ?_, ⟨_, by rw [eL]; exact hns⟩, fun c hc => ?_, fun n n' c e e' => ?_, fun x e => ?_, ?_, ?_⟩
    · rw [eL]
      cases q : S.hT.get? s.heap.objs.size with
      | none => rfl
      | some o => obtain ⟨o', e'⟩ := TabOk.alive G G.top _ o q; rw [fr] at e'; cases e'
    · obtain ⟨n, e⟩ := isC hc
      obtain ⟨a, v, o, e1, e2⟩ := hcl n c e
      exact ⟨a, v, o, hkp _ _ e1, e2⟩
    · exact hinj n n' c (eC ▸ e) (eC ▸ e')
    · exact absurd rfl (hcell _ (mem_of_lookup' e))
    · simp [hps, hqs]
    · intro i x p k ex e
      obtain ⟨rfl, hp⟩ := impl e
      rcases Nat.lt_or_ge i ps.length with hi | hi
      · rw [List.getElem?_append_left hi] at hp
        rw [List.getElem?_append_left (by simp; (first | lia | omega)), List.getElem?_append_left (by (first | lia | omega))] at ex
        obtain ⟨v, fv, ev, rv, hfv⟩ := r.get hp
        have hx := List.mem_of_getElem? ex
        have ndp : pn.Nodup := (List.nodup_append.mp (List.nodup_append.mp nd).1).1
        refine ⟨v, fv, .inl ⟨by rw [kO]; exact hloc x hx, _, by rw [eL]; exact hns, lookup_zip ndp hvl ex ev⟩, rv.mono fun z hz o e => hkp z o e, fun z hz => ⟨fun e => ?_, fun hc => ?_⟩, fun hh => absurd rfl hh, sepOk⟩
        · obtain ⟨_, o, ho⟩ := rv.lives z hz
          rw [e, eL, fr] at ho; cases ho
        · obtain ⟨n, e⟩ := isC hc
          exact hfp z (hfv z hz) n e
      · rw [List.getElem?_append_right hi] at hp
        have hq : i - ps.length < qs.length := (List.getElem?_eq_some_iff.mp hp).1
        rw [List.getElem?_append_left (by simp; (first | lia | omega)), List.getElem?_append_right (by (first | lia | omega)), ← hps] at ex
        obtain ⟨hfk, hcd', c, v, fv, e1, e2, rv, hfv⟩ := hfree _ x p ex hp
        obtain ⟨oc, eo, ed⟩ := e2
        refine ⟨v, fv, .inr ⟨.inr ⟨by rw [kO]; exact hfk, hcd'⟩, c, by rw [eC]; exact e1, oc, hkp _ _ eo, ed⟩, rv.mono fun z hz o e => hkp z o e, fun z hz => ⟨fun e => ?_, fun hc => ?_⟩, fun hh => absurd rfl hh, sepOk⟩
        · obtain ⟨_, o, ho⟩ := rv.lives z hz
          rw [e, eL, fr] at ho; cases ho
        · obtain ⟨n, e⟩ := isC hc
          exact hfv z hz n e
  exact wpAny_mono (E := No) (h env h₀ _ eC eL hkp kO R' F) (fun _ _ h => h) fun _ _ h => h.elim
end
end Mine
open PySem PySem.Calls PyProof.Rows PySem.W
set_option Elab.async false
set_option autoImplicit false
set_option linter.unusedVariables false
namespace Mine
noncomputable abbrev PW : Program := PySem.Challenge.pw_re0073_01
end Mine
open PySem PySem.Calls PyProof.Rows PySem.W
set_option Elab.async false
set_option autoImplicit false
set_option linter.unusedVariables false
namespace Mine

noncomputable def stBody : Stmt → List Stmt
  | .FunctionDef _ _ b _ _ _ _ _ _ _ => b
  | _ => []
noncomputable def stScope : Stmt → Scope
  | .FunctionDef _ _ _ _ _ _ s _ _ _ => s
  | _ => default
noncomputable def stParams : Stmt → Arguments
  | .FunctionDef _ p _ _ _ _ _ _ _ _ => p
  | _ => default
noncomputable def stPos : Stmt → Pos
  | .FunctionDef _ _ _ _ _ _ _ _ _ p => p
  | _ => default
noncomputable def stAt (l : List Stmt) (k : Nat) : Stmt := match l.drop k with
  | st :: _ => st
  | [] => .Pass default
noncomputable def topAt (k : Nat) : Stmt := stAt PW.main.body k

noncomputable def dsum (n : Nat) : List Int → Int
  | [] => 0
  | d :: r => d + 2 ^ n * dsum n r
theorem dsum_append (n : Nat) : ∀ a b : List Int, dsum n (a ++ b) = dsum n a + 2 ^ (n * a.length) * dsum n b
  | [], b => by simp [dsum]
  | d :: a, b => by
    rw [List.cons_append, dsum, dsum_append n a b, dsum, List.length_cons, Nat.mul_add, Nat.mul_one, Int.pow_add]
    rw [Int.mul_add, ← Int.mul_assoc, Int.mul_comm (2 ^ n) (2 ^ (n * a.length))]
    (first | lia | omega)
noncomputable def sub (ds : List Int) (l r : Nat) : List Int := (ds.drop l).take (r - l)
theorem sub_split (ds : List Int) {l m r : Nat} (h1 : l ≤ m) (h2 : m ≤ r) : sub ds l r = sub ds l m ++ sub ds m r := by
  unfold sub
  have e1 : r - l = (m - l) + (r - m) := by (first | lia | omega)
  have e2 : ds.drop m = (ds.drop l).drop (m - l) := by rw [List.drop_drop]; congr 1; (first | lia | omega)
  rw [e1, List.take_add, e2]
theorem sub_len (ds : List Int) {l r : Nat} (h1 : l ≤ r) (h2 : r ≤ ds.length) : (sub ds l r).length = r - l := by
  unfold sub; rw [List.length_take, List.length_drop]; (first | lia | omega)
theorem sub_one (ds : List Int) {l : Nat} {d : Int} (h : ds[l]? = some d) (n : Nat) : dsum n (sub ds l (l + 1)) = d := by
  unfold sub
  obtain ⟨h1, h2⟩ := List.getElem?_eq_some_iff.mp h
  rw [Nat.add_sub_cancel_left, List.drop_eq_getElem_cons h1, List.take_succ_cons, List.take_zero, h2]
  simp [dsum]

section
variable {S : Sys} {sc : Scope} {ns : List Str} {base : Heap} {env : Env} {s s' s0 : Shared} {ρ : Ro} {rt : Nat → Addr} {b : Bool} {d : Nat} {q : Md} {p p1 p2 p' : PV} {mg mb : Str → Option Value}

theorem Kp.store {L : Addr} {s1 : Shared} {h' : Heap} {tk : Nat} (k : Kp S true s s1) (hL : s.heap.get? L = none) (hs : Heap.SameBut L s1.heap h') (g : Gd S h') : Kp S true s { s1 with heap := h', toks := tk } := by
  obtain ⟨h1, t1, rfl, kk, _⟩ := k
  refine ⟨h', tk, rfl, fun x o a b e => ?_, g⟩
  have : x ≠ L := fun he => by rw [he, hL] at e; cases e
  rw [hs.2 x this]
  exact kk x o a b e

theorem Ev.go {A : Around} {e : Expr} {Q : Value → Shared → Prop} (R : Room d A) (F : Fm S sc ns base env s.heap ρ rt) (h : Ev S sc ns b d q ρ e p) (hQ : ∀ v s' fp, Kp S b s s' → Rp S s'.heap v p fp → MdOk q s env ρ rt fp → Q v s') : wpAny (model S.prog S.w) A (eval e env) Q No s := h A base env s rt Q R F hQ
theorem Tr.go {A : Around} {e : Expr} {t : Bool} {Q : Bool → Shared → Prop} (R : Room d A) (F : Fm S sc ns base env s.heap ρ rt) (h : Tr S sc ns b d ρ e t) (hQ : ∀ s', Kp S b s s' → Q t s') : wpAny (model S.prog S.w) A (isTrue e env (eval e env)) Q No s := h A base env s rt Q R F hQ

theorem Op2.to {f : Value → Value → Sem Value} {x y : Int} (o : Op2 S b d f p1 p2 (.int x)) (e : x = y) : Op2 S b d f p1 p2 (.int y) := e ▸ o
theorem Room.mono {d d' : Nat} {A : Around} (r : Room d A) (h : d' ≤ d) : Room d' A := ⟨r.hd, by have := r.depth; (first | lia | omega), by have := r.units; (first | lia | omega)⟩

noncomputable abbrev d2iIn : Stmt := stAt (stBody (topAt 6)) 0

structure DCtx (S : Sys) (h : Heap) (f cd ci cn : Addr) (qual : Str) (vd : Value) (fpd : List Addr) (ds : List Int) (n : Nat) (doc pm cv ctv : Value) : Prop where
  gd : Gd S h
  fn : h.get? f = some (inFn "inner" qual (stParams d2iIn) (stBody d2iIn) (stScope d2iIn) [("n", cn), ("inner", ci), ("digits", cd)] doc pm cv ctv)
  fTB : f ∉ S.TB
  code : h.CodeRec cv qual
  cD : h.IsCell cd (some vd)
  cI : h.IsCell ci (some (.ref f))
  cN : ∃ t, h.IsCell cn (some (.int n t))
  hT : S.hT.get? cd = none ∧ S.hT.get? ci = none ∧ S.hT.get? cn = none
  ne : cd ≠ ci ∧ cd ≠ cn ∧ ci ≠ cn
  rd : Rp S h vd (.ints ds) fpd

theorem DCtx.keeps {h h' : Heap} {f cd ci cn : Addr} {qual : Str} {vd : Value} {fpd : List Addr} {ds : List Int} {n : Nat} {doc pm cv ctv : Value} (C : DCtx S h f cd ci cn qual vd fpd ds n doc pm cv ctv) (g : Gd S h') (k : ∀ a o, h.get? a = some o → h'.get? a = some o) :
    DCtx S h' f cd ci cn qual vd fpd ds n doc pm cv ctv :=
  ⟨g, k _ _ C.fn, C.fTB, C.code.keeps k, C.cD.keeps k, C.cI.keeps k, let ⟨t, e⟩ := C.cN; ⟨t, e.keeps k⟩, C.hT, C.ne, C.rd.mono fun b _ o e => k b o e⟩

theorem notCell {h : Heap} {ds : List Int} {v : Value} {fp : List Addr} {c : Addr} {w : Option Value} (r : Rp S h v (.ints ds) fp) (hc : h.IsCell c w) : c ∉ fp := fun hm => by
  obtain ⟨a, vs, _, rfl, _, ⟨o, e, _, n, hd⟩, _⟩ := r.ints
  obtain ⟨o', e', hd'⟩ := hc
  cases hm with
  | head => rw [e] at e'; cases e'; rw [hd] at hd'; cases hd'
  | tail _ h => cases h

theorem look3 {cn ci cd : Addr} {n : Str} {c : Addr} (e : List.lookup n [(("n" : Str), cn), ("inner", ci), ("digits", cd)] = some c) : (n = "n" ∧ c = cn) ∨ (n = "inner" ∧ c = ci) ∨ (n = "digits" ∧ c = cd) := by
  rw [List.lookup_cons] at e
  cases h1 : n == "n" with
  | true => rw [h1] at e; cases e; exact .inl ⟨eq_of_beq h1, rfl⟩
  | false =>
    rw [h1, List.lookup_cons] at e
    cases h2 : n == "inner" with
    | true => rw [h2] at e; cases e; exact .inr (.inl ⟨eq_of_beq h2, rfl⟩)
    | false =>
      rw [h2, List.lookup_cons] at e
      cases h3 : n == "digits" with
      | true => rw [h3] at e; cases e; exact .inr (.inr ⟨eq_of_beq h3, rfl⟩)
      | false => rw [h3] at e; cases e

structure DFit (ds : List Int) (n : Nat) : Prop where
  len : ds.length < 2 ^ 20
  nlt : n < 2 ^ 20
  bits : ∀ l r k, l ≤ r → r ≤ ds.length → k ≤ ds.length → (Builtin.Int.intBits (dsum n (sub ds l r)) : Int) + k * n ≤ 2 ^ 27

theorem d2i_inner {f cd ci cn : Addr} {qual : Str} {vd : Value} {fpd : List Addr} {ds : List Int} {n : Nat} {doc pm cv ctv : Value} (W : S.Ok mg mb) (fit : DFit ds n) : ∀ (k l r : Nat), r = l + k + 1 → r ≤ ds.length → ∀ (A : Around) (s : Shared) (t1 t2 : Tok) (Q : Value → Shared → Prop),
    Room (k + 1) A → DCtx S s.heap f cd ci cn qual vd fpd ds n doc pm cv ctv → Post S true s (.int (dsum n (sub ds l r))) Q → wpAny (model S.prog S.w) A (call (.ref f) [.int l t1, .int r t2]) Q No s := by
  intro k
  induction k using Nat.strongRecOn with
  | _ k ih =>
  intro l r hr hrl A s t1 t2 Q R C hQ
  have hll : l < ds.length := by (first | lia | omega)
  obtain ⟨tn, cNv⟩ := C.cN
  refine inner_call (d := k) W R C.gd C.fn C.code (pn := ["L", "R"]) (fn := ["digits", "n"]) (rest := ["mid", "shift"]) (ps := [.int l, .int r]) (qs := [.ints ds, .int n]) (fp := []) rfl (by decide) (by decide) rfl rfl rfl (by decide) rfl
    (.cons (f1 := []) (.int _ _) (.cons (f1 := []) (.int _ _) .nil)) rfl (fun n c e => ?_) (fun n n' c e e' => ?_) (fun z hz => by cases hz) (fun i x p e e' => ?_) fun env h₀ tk eC eL kp kO R' F => ?_
  · rcases look3 e with ⟨_, rfl⟩ | ⟨_, rfl⟩ | ⟨_, rfl⟩
    · exact ⟨C.hT.2.2, _, cNv⟩
    · exact ⟨C.hT.2.1, _, C.cI⟩
    · exact ⟨C.hT.1, _, C.cD⟩
  · rcases look3 e with ⟨rfl, rfl⟩ | ⟨rfl, rfl⟩ | ⟨rfl, rfl⟩ <;> rcases look3 e' with ⟨rfl, h⟩ | ⟨rfl, h⟩ | ⟨rfl, h⟩ <;> first | rfl | (exfalso; first | exact C.ne.1 h | exact C.ne.2.1 h | exact C.ne.2.2 h | exact C.ne.1 h.symm | exact C.ne.2.1 h.symm | exact C.ne.2.2 h.symm)
  · have hi : i < 2 := (List.getElem?_eq_some_iff.mp e).1
    have : i = 0 ∨ i = 1 := by (first | lia | omega)
    rcases this with rfl | rfl
    · cases e; cases e'
      refine ⟨by decide, by decide, cd, vd, fpd, rfl, C.cD, C.rd, fun z hz m hm => ?_⟩
      rcases look3 hm with ⟨_, rfl⟩ | ⟨_, rfl⟩ | ⟨_, rfl⟩
      · exact notCell C.rd cNv hz
      · exact notCell C.rd C.cI hz
      · exact notCell C.rd C.cD hz
    · cases e; cases e'
      exact ⟨by decide, by decide, cn, _, [], rfl, cNv, .int _ _, fun z hz => by cases hz⟩
  · have hL : s.heap.get? env.locals = none := by rw [eL]; exact fresh_size _
    have k0 : Kp S true s { s with heap := h₀, toks := tk } := Kp.of_keeps C.gd kp
    refine wpAny_execs_cons (wpAny_If (Tr.go (b := true) (t := ((l : Int) + 1 == r)) (s := { s with heap := h₀, toks := tk }) R' F (Tr.cmp (q1 := .R) (q2 := .R) (Ev.op2 (q1 := .R) (q2 := .R) (Ev.var 0 rfl rfl rfl) Ev.cint o_add) (Ev.var 1 rfl rfl rfl) o_eq) fun s1 k1 => ?_))
    have F1 := F.kp k1
    have k01 := k0.trans k1
    by_cases hk : k = 0
    · subst hk
      have e1 : ((l : Int) + 1 == r) = true := by rw [hr]; simp
      rw [e1]
      simp only [if_true]
      refine wpAny_execs_cons (wpAny_Return_some ?_)
      have hd : ds[l]? = some (ds[l]) := List.getElem?_eq_getElem hll
      refine Ev.go (b := true) (q := .F) (p := .int ds[l]) R' F1 (Ev.idxA (q0 := .R) (q1 := .R) (ps := ds.map .int) (k := l) (Ev.var 2 rfl rfl rfl) (Ev.var 0 rfl rfl rfl) (by (first | lia | omega)) (by have := fit.len; (first | lia | omega)) (by rw [List.getElem?_map, Int.toNat_natCast, hd]; rfl) rfl) fun v s2 fp k2 r2 _ => ?_
      have : dsum n (sub ds l r) = ds[l] := by rw [hr]; exact sub_one ds hd n
      rw [this] at hQ
      exact hQ v s2 fp (k01.trans k2) r2 fun z hz => by (first | obtain ⟨_, rfl, rfl⟩ := r2.inv | cases r2); cases hz
    · have e1 : ((l : Int) + 1 == r) = false := by
        refine beq_eq_false_iff_ne.mpr ?_
        (first | lia | omega)
      rw [e1]
      simp only [Bool.false_eq_true, if_false]
      refine wpAny_execs_nil ?_
      obtain ⟨m, hm⟩ : ∃ m, m = (l + r) / 2 := ⟨_, rfl⟩
      have hm1 : l < m := by (first | lia | omega)
      have hm2 : m < r := by (first | lia | omega)
      have fl := fit.len
      have fnn := fit.nlt
      have em : ((l : Int) + r).fdiv (2 ^ (1 : Int).toNat) = (m : Int) := by
        rw [Int.fdiv_eq_ediv_of_nonneg _ (by decide)]
        show ((l : Int) + r) / 2 = m
        (first | lia | omega)
      refine wpAny_execs_cons (wpAny_Assign_Name (Ev.go (b := true) (q := .R) (p := .int m) R' F1 (Ev.op2 (q1 := .R) (q2 := .R) (Ev.op2 (q1 := .R) (q2 := .R) (Ev.var 0 rfl rfl rfl) (Ev.var 1 rfl rfl rfl) o_add) Ev.cint ((o_shr (by decide)).to em)) fun v s2 fp k2 r2 _ => ?_))
      (first | obtain ⟨_, rfl, rfl⟩ := r2.inv | cases r2)
      refine store_loc (i := 4) (F1.kp k2) (by decide) rfl (by decide) (.int _ _) fun h3 tk3 rt3 hs3 F3 => ?_
      have k03 : Kp S true s { s2 with heap := h3, toks := tk3 } := (k01.trans k2).store hL hs3 F3.gd
      have es : ((m : Int) - l) * n = (((m - l) * n : Nat) : Int) := by rw [Int.natCast_mul, Int.ofNat_sub (by (first | lia | omega))]
      have hmul : IntMulOk ((m : Int) - l) n := .of_left (intBits_le_64 (by (first | lia | omega)) (by (first | lia | omega)))
      refine wpAny_execs_cons (wpAny_Assign_Name (Ev.go (b := true) (q := .R) (p := .int (((m - l) * n : Nat) : Int)) (s := { s2 with heap := h3, toks := tk3 }) R' F3 (Ev.op2 (q1 := .R) (q2 := .R) (Ev.op2 (q1 := .R) (q2 := .R) (Ev.var 4 rfl rfl rfl) (Ev.var 0 rfl rfl rfl) o_sub) (Ev.var 3 rfl rfl rfl) ((o_mul hmul).to es)) fun v s4 fp k4 r4 _ => ?_))
      (first | obtain ⟨_, rfl, rfl⟩ := r4.inv | cases r4)
      refine store_loc (i := 5) (F3.kp k4) (by decide) rfl (by decide) (.int _ _) fun h5 tk5 rt5 hs5 F5 => ?_
      have k05 : Kp S true s { s4 with heap := h5, toks := tk5 } := (k03.trans k4).store hL hs5 F5.gd
      have C5 := C.keeps F5.gd k05.keeps
      have rdI : ∀ {h : Heap}, h.IsCell ci (some (.ref f)) → Reads env h "inner" (.ref f) := fun hc => .inr ⟨.inr ⟨by rw [kO]; rfl, by decide⟩, ci, by rw [eC]; rfl, hc⟩
      have fnI : ∀ {h : Heap}, DCtx S h f cd ci cn qual vd fpd ds n doc pm cv ctv → FnAt f h := fun C => ⟨_, _, _, _, C.fn⟩
      refine wpAny_execs_cons (wpAny_Return_some (wpAny_BinOp (wpAny_BinOp (call_named (s := { s4 with heap := h5, toks := tk5 }) (b := true) R' F5 (rdI C5.cI) (fnI C5) C.fTB (Evs.cons (q := .R) (Ev.var 4 rfl rfl rfl) (Evs.cons (Ev.var 1 rfl rfl rfl) Evs.nil)) fun vs s6 fp k6 r6 => ?_))))
      obtain ⟨v1, v2, f1, f2, rfl, rfl, r61, r62⟩ := r6.two
      (first | obtain ⟨_, rfl, rfl⟩ := r61.inv | cases r61); (first | obtain ⟨_, rfl, rfl⟩ := r62.inv | cases r62)
      have k06 := k05.trans k6
      refine ih (r - m - 1) (by (first | lia | omega)) m r (by (first | lia | omega)) hrl _ s6 _ _ _ (R'.mono (by (first | lia | omega))) (C.keeps k6.gd k06.keeps) fun v7 s7 fp7 k7 r7 _ => ?_
      (first | obtain ⟨_, rfl, rfl⟩ := r7.inv | cases r7)
      have k07 := k06.trans k7
      have F7 := (F5.kp k6).kp k7
      refine Ev.go (b := true) (q := .R) (p := .int (((m - l) * n : Nat) : Int)) R' F7 (Ev.var 5 rfl rfl rfl) fun v8 s8 fp8 k8 r8 _ => ?_
      (first | obtain ⟨_, rfl, rfl⟩ := r8.inv | cases r8)
      have fitm := fit.bits m r (m - l) (by (first | lia | omega)) hrl (by (first | lia | omega))
      refine (o_shl (S := S) (b := true) (d := k) (x := dsum n (sub ds m r)) (y := (((m - l) * n : Nat) : Int)) (by (first | lia | omega)) (by rw [Int.natCast_mul]; exact fitm)) _ s8 _ _ [] [] _ R' k8.gd (.int _ _) (.int _ _) fun v9 s9 fp9 k9 r9 _ => ?_
      (first | obtain ⟨_, rfl, rfl⟩ := r9.inv | cases r9)
      have k09 := (k07.trans k8).trans k9
      have C9 := C.keeps k9.gd k09.keeps
      refine call_named (s := s9) (b := true) R' ((F7.kp k8).kp k9) (rdI C9.cI) (fnI C9) C.fTB (Evs.cons (q := .R) (Ev.var 0 rfl rfl rfl) (Evs.cons (Ev.var 4 rfl rfl rfl) Evs.nil)) fun vs s10 fp k10 r10 => ?_
      obtain ⟨v1, v2, f1, f2, rfl, rfl, r101, r102⟩ := r10.two
      (first | obtain ⟨_, rfl, rfl⟩ := r101.inv | cases r101); (first | obtain ⟨_, rfl, rfl⟩ := r102.inv | cases r102)
      have k010 := k09.trans k10
      refine ih (m - l - 1) (by (first | lia | omega)) l m (by (first | lia | omega)) (by (first | lia | omega)) _ s10 _ _ _ (R'.mono (by (first | lia | omega))) (C.keeps k10.gd k010.keeps) fun v11 s11 fp11 k11 r11 _ => ?_
      (first | obtain ⟨_, rfl, rfl⟩ := r11.inv | cases r11)
      refine (o_add (S := S) (b := true) (d := k)) _ s11 _ _ [] [] _ R' k11.gd (.int _ _) (.int _ _) fun v12 s12 fp12 k12 r12 _ => ?_
      have ev : dsum n (sub ds m r) * 2 ^ (((m - l) * n : Nat) : Int).toNat + dsum n (sub ds l m) = dsum n (sub ds l r) := by
        rw [sub_split ds (l := l) (m := m) (r := r) (by (first | lia | omega)) (by (first | lia | omega)), dsum_append, sub_len ds (by (first | lia | omega)) (by (first | lia | omega)), Int.toNat_natCast, Nat.mul_comm (m - l) n, Int.mul_comm (dsum n (sub ds m r)), Int.add_comm]
      rw [ev] at r12
      exact hQ v12 s12 fp12 ((k010.trans k11).trans k12) r12 fun z hz => by (first | obtain ⟨_, rfl, rfl⟩ := r12.inv | cases r12); cases hz
end
end Mine
open PySem PySem.Calls PyProof.Rows PySem.W
set_option Elab.async false
set_option autoImplicit false
set_option linter.unusedVariables false
namespace Mine
section
variable {S : Sys} {sc : Scope} {ns : List Str} {base : Heap} {env : Env} {s s' s0 : Shared} {ρ : Ro} {rt : Nat → Addr} {b : Bool} {d : Nat} {q : Md} {p p1 p2 p' : PV} {mg mb : Str → Option Value}

theorem Tr.list {e : Expr} {ps : List PV} {q1 : Md} (h : Ev S sc ns b d q1 ρ e (.list ps)) (hf : (ps.length : Int) < 2 ^ 63) (he : ∀ env t, isTrue e env t = (do let v ← t; standAt e.pos; holding [v] (truthy v)) := by intro _ _; rfl) : Tr S sc ns b d ρ e (!ps.isEmpty) := by
  intro A base env s rt Q R F hQ
  refine wpAny_isTrue_value (h A base env s rt _ R F fun v s1 f k r _ => ?_) (he env _)
  cases r with
  | @list a vs _ fp g1 g2 g3 =>
    have e : vs.toArray.isEmpty = ps.isEmpty := by
      have := g3.length
      cases vs <;> cases ps <;> first | rfl | simp at this
    refine wpAny_truthy_list g2.isList (by rw [List.size_toArray, g3.length]; exact hf) ?_
    rw [e]
    exact hQ _ (k.toks _)

structure TopFn (S : Sys) (mg : Str → Option Value) (k : Nat) (a : Addr) (fd : FuncData) : Prop where
  ob : ∃ o, S.hT.get? a = some o ∧ o.data = .func fd
  code : S.hT.CodeRec fd.code fd.qualname
  body : fd.body = .stmts (stBody (topAt k))
  scope : fd.scope = stScope (topAt k)
  params : fd.params = stParams (topAt k)
  clo : fd.closure = []
  glob : fd.globals = mainGlobals
  blt : fd.builtins = builtinsNs
  dfl : fd.defaults = .none ∧ fd.kwdefaults = .none

theorem bind_ok {fd : FuncData} {P : Arguments} {vs : List Value} {bs : List (Str × Value)} (hp : fd.params = P) (hd : fd.defaults = .none ∧ fd.kwdefaults = .none)
    (h : ∀ fd : FuncData, bindArgs { fd with params := P, defaults := .none, kwdefaults := .none } ⟨vs, []⟩ = pure bs) : bindArgs fd ⟨vs, []⟩ = pure bs := by
  have := h fd
  obtain ⟨d1, d2⟩ := hd
  cases fd
  simp only at hp d1 d2
  subst hp; subst d1; subst d2
  exact this

theorem d2i_ok {a c : Addr} {fd : FuncData} {t : Tab} {ds : List Int} {n : Nat} (W : S.Ok mg mb) (T : TopFn S mg 6 a fd) (hc : fd.code = .ref c) (K : Maker S mg c t) (ht : t.line = (stPos d2iIn).line ∧ t.col = (stPos d2iIn).col)
    (hqn : fd.qualname ++ ".<locals>." ++ "inner" = t.qual) (fit : DFit ds n) (hd : ds.length ≤ d) (hlen : GName S (stScope (topAt 6)) "len" (.builtin "len")) : CallOk S false (d + 1) (.ref a) [.ints ds, .int n] (.int (dsum n ds)) := by
  obtain ⟨o, ho, hdata⟩ := T.ob
  refine fn_ok0 (params := ["digits", "n"]) (rest := ["inner"]) W ho hdata T.code T.body T.clo T.glob T.blt (by rw [T.scope]; rfl) (by rw [T.scope]; rfl) (by rw [T.scope]; rfl) (fun vs hv => ?_) rfl (by rw [T.scope]; decide) (by decide) fun A env base s Q R F hcode hqual hQ => ?_
  · exact vec2 (P := fun vs => bindArgs fd ⟨vs, []⟩ = pure ((["digits", "n"] : List Str).zip vs)) (fun _ _ => bind_ok T.params T.dfl fun fd => rfl) vs hv
  · rw [T.scope] at F hQ
    -- the cells
    have cell : ∀ x, (stScope (topAt 6)).names.lookup x = some .cell → ∃ c, env.cells.lookup x = some c := fun x e => Option.isSome_iff_exists.mp (F.cellsAll x e)
    obtain ⟨cd, hcd⟩ := cell "digits" rfl
    obtain ⟨cn, hcn⟩ := cell "n" rfl
    obtain ⟨ci, hci⟩ := cell "inner" rfl
    have hne : cd ≠ ci ∧ cd ≠ cn ∧ ci ≠ cn := ⟨fun e => absurd (F.cellInj _ _ _ hcd (e ▸ hci)) (by decide), fun e => absurd (F.cellInj _ _ _ hcd (e ▸ hcn)) (by decide), fun e => absurd (F.cellInj _ _ _ hci (e ▸ hcn)) (by decide)⟩
    have hclos : closureFor (stScope d2iIn) env = pure [(("n" : Str), cn), ("inner", ci), ("digits", cd)] := by
      rw [closureFor_is (fun n k hm hk => ?_)]
      · show (pure [(("n" : Str), (env.cells.lookup ("n" : Str)).getD 0), ("inner", (env.cells.lookup ("inner" : Str)).getD 0), ("digits", (env.cells.lookup ("digits" : Str)).getD 0)] : Sem _) = _
        rw [hcd, hcn, hci]; rfl
      · subst hk
        have : n = "digits" ∨ n = "inner" ∨ n = "n" := by
          have hm' : (n, NameKind.free) ∈ [(("L" : Str), NameKind.local), ("R", .local), ("mid", .local), ("shift", .local), ("digits", .free), ("inner", .free), ("n", .free)] := hm
          simp at hm'
          exact hm'
        rcases this with rfl | rfl | rfl
        · rw [hcd]; rfl
        · rw [hci]; rfl
        · rw [hcn]; rfl
    have hqi : qualnameIn env "inner" "inner" = t.qual := by
      unfold qualnameIn
      rw [if_neg, hqual, hqn]
      have := F.kindOf' (x := "inner") .cell rfl (by intro h; cases h)
      rw [this]; decide
    show wpAny _ A (execs (d2iIn :: (stBody (topAt 6)).drop 1) env) Q No s
    refine wpAny_execs_cons ?_
    show wpAny _ A (exec (.FunctionDef "inner" (stParams d2iIn) (stBody d2iIn) [] none [] (stScope d2iIn) none "inner" (stPos d2iIn)) env) _ No s
    refine nestDef_K rfl rfl rfl ?_
    rw [hqi]
    refine make_ok W K F.gd F.glob (hcode.trans hc) hclos ht.1 ht.2 fun f h1 tk1 doc cv ctv kp1 g1 fr1 fTB hfn hcv => ?_
    have keep1 : ∀ x o, x ∉ S.TB → s.heap.get? x = some o → h1.get? x = some o := fun x o hx e => kp1 x o id (.inr hx) e
    have F1 := F.grow keep1 g1
    obtain ⟨hbI, v0, cI0⟩ := F1.cellB ci ⟨_, hci⟩
    refine wpAny_storeName_cell (s := { s with heap := h1, toks := tk1 }) F.kind (F.kindOf' .cell rfl (by intro h; cases h)) hci cI0 fun h2 cI2 hs2 => ?_
    have hx : ∀ (i : Nat) (z : PV × Own), ((["digits", "n"] : List Str) ++ (["inner"] : List Str))[i]? = some "inner" → (List.map (fun p => some (p, Own.imm)) [PV.ints ds, PV.int n] ++ List.replicate (["inner"] : List Str).length none)[i]? ≠ some (some z) := fun i z e e' => by
      have : i < 3 := (List.getElem?_eq_some_iff.mp e).1
      have : i = 0 ∨ i = 1 ∨ i = 2 := by (first | lia | omega)
      rcases this with rfl | rfl | rfl
      · exact absurd e (by decide)
      · exact absurd e (by decide)
      · cases e'
    have F2 := F1.cellStore hci hs2 cI2 hx
    have hfci : f ≠ ci := fun e => by
      obtain ⟨_, v, o, e1, _⟩ := F.cellB ci ⟨_, hci⟩
      rw [← e, fr1] at e1; cases e1
    have cDr : ∃ vd fpd, h2.IsCell cd (some vd) ∧ Rp S h2 vd (.ints ds) fpd := by
      obtain ⟨v, fp, V⟩ := F2.vars 0 "digits" _ _ rfl rfl
      rcases V.rd with ⟨r1, _⟩ | ⟨_, c, r2, r3⟩
      · rw [F.kindOf' .cell rfl (by intro h; cases h)] at r1; (first | obtain ⟨_, rfl, rfl⟩ := r1.inv | cases r1)
      · rw [hcd] at r2; (first | obtain ⟨_, rfl, rfl⟩ := r2.inv | cases r2); exact ⟨v, fp, r3, V.rp⟩
    have cNr : ∃ tn, h2.IsCell cn (some (.int n tn)) := by
      obtain ⟨v, fp, V⟩ := F2.vars 1 "n" _ _ rfl rfl
      rcases V.rd with ⟨r1, _⟩ | ⟨_, c, r2, r3⟩
      · rw [F.kindOf' .cell rfl (by intro h; cases h)] at r1; (first | obtain ⟨_, rfl, rfl⟩ := r1.inv | cases r1)
      · rw [hcn] at r2; (first | obtain ⟨_, rfl, rfl⟩ := r2.inv | cases r2)
        have := V.rp
        cases this
        exact ⟨_, r3⟩
    obtain ⟨vd, fpd, cD, rD⟩ := cDr
    obtain ⟨tn, cN⟩ := cNr
    have hcv2 : h2.CodeRec cv t.qual := by
      obtain ⟨c0, o0, vs0, t0, q1, q2, q3, q4⟩ := hcv
      refine ⟨c0, o0, vs0, t0, q1, (hs2.2 _ fun he => ?_).trans q2, q3, q4⟩
      obtain ⟨oI, e1, e2⟩ := cI0
      rw [he, e1] at q2; (first | obtain ⟨_, rfl, rfl⟩ := q2.inv | cases q2); rw [e2] at q3; (first | obtain ⟨_, rfl, rfl⟩ := q3.inv | cases q3)
    have C : DCtx S h2 f cd ci cn t.qual vd fpd ds n doc ((mg "__name__").getD .none) cv ctv :=
      ⟨F2.gd, (hs2.2 _ hfci).trans hfn, fTB, hcv2, cD, cI2, ⟨tn, cN⟩, ⟨F.topNone (F.cellB cd ⟨_, hcd⟩).1, F.topNone (F.cellB ci ⟨_, hci⟩).1, F.topNone (F.cellB cn ⟨_, hcn⟩).1⟩, hne, rD⟩
    have st2 : Stp S false env (List.map (fun p => some (p, Own.imm)) [PV.ints ds, PV.int n] ++ List.replicate (["inner"] : List Str).length none) (fun _ => 0) s { s with heap := h2, toks := tk1 } := by
      refine ⟨⟨h2, tk1, rfl⟩, fun x o hx hb e => ?_, fun x o e => ?_⟩
      · have : x ≠ ci := fun he => hx (.inr (.inl (he ▸ ⟨_, hci⟩)))
        exact (hs2.2 x this).trans (kp1 x o id hb e)
      · by_cases hxc : x = ci
        · obtain ⟨oI, e1, _⟩ := cI2; exact ⟨oI, hxc ▸ e1⟩
        · obtain ⟨o', e'⟩ := TabOk.alive g1 keep1 x o e
          exact ⟨o', (hs2.2 x hxc).trans e'⟩
    have fin : ∀ {tt : Tok} {s3 : Shared}, Kp S true { s with heap := h2, toks := tk1 } s3 → Q (.ret (.int (dsum n ds) tt)) s3 := fun k => by
      refine hQ _ _ ⟨_, [], rfl, st2.trans .refl (.ofKp k.weak), k.gd, .int _ _, fun x hx => by cases hx⟩
    have len := fit.len
    refine wpAny_execs_cons (wpAny_Return_some (wpAny_IfExp (Tr.go (b := true) (s := { s with heap := h2, toks := tk1 }) R F2 (Tr.list (q1 := .R) (Ev.var 0 rfl rfl rfl) (by rw [List.length_map]; (first | lia | omega))) fun s3 k3 => ?_)))
    by_cases hem : ds = []
    · subst hem
      refine Ev.go (b := true) (q := .R) R (F2.kp k3) Ev.cint fun v s4 fp k4 r4 _ => ?_
      (first | obtain ⟨_, rfl, rfl⟩ := r4.inv | cases r4)
      exact fin (k3.trans k4)
    · have e1 : (!(ds.map PV.int).isEmpty) = true := by cases ds with | nil => exact absurd rfl hem | cons a b => rfl
      rw [e1]
      have F3 := F2.kp k3
      have C3 := C.keeps k3.gd k3.keeps
      refine call_named (s := s3) (b := true) R F3 (.inr ⟨.inl (F.kindOf' .cell rfl (by intro h; cases h)), ci, hci, C3.cI⟩) ⟨_, _, _, _, C3.fn⟩ fTB (Evs.cons (q := .F) Ev.cint (Evs.cons (Ev.call (q1 := .R) hlen (.blt _) (Evs.cons (Ev.var 0 rfl rfl rfl) Evs.nil) (c_lenList (by rw [List.length_map]; (first | lia | omega)))) Evs.nil)) fun vs s4 fp k4 r4 => ?_
      obtain ⟨v1, v2, f1, f2, rfl, rfl, r41, r42⟩ := r4.two
      (first | obtain ⟨_, rfl, rfl⟩ := r41.inv | cases r41); (first | obtain ⟨_, rfl, rfl⟩ := r42.inv | cases r42)
      have hpos : 0 < ds.length := List.length_pos_iff.mpr hem
      rw [List.length_map]
      refine d2i_inner W fit (ds.length - 1) 0 ds.length (by (first | lia | omega)) (Nat.le_refl _) A s4 _ _ _ (R.mono (by (first | lia | omega))) (C3.keeps k4.gd k4.keeps) fun v5 s5 fp5 k5 r5 _ => ?_
      have ew : sub ds 0 ds.length = ds := by unfold sub; simp
      rw [ew] at r5
      (first | obtain ⟨_, rfl, rfl⟩ := r5.inv | cases r5)
      exact fin ((k3.trans k4).trans k5)
end
end Mine
open PySem PySem.Calls PyProof.Rows PySem.W
set_option Elab.async false
set_option autoImplicit false
set_option linter.unusedVariables false
namespace Mine

noncomputable def digs (n : Nat) : Nat → Nat → List Int
  | 0, _ => []
  | 1, x => [(x : Int)]
  | k + 2, x => ((x % 2 ^ n : Nat) : Int) :: digs n (k + 1) (x / 2 ^ n)

theorem digs_len (n : Nat) : ∀ k x, (digs n k x).length = k
  | 0, _ => rfl
  | 1, _ => rfl
  | k + 2, x => by rw [digs, List.length_cons, digs_len n (k + 1)]

theorem digs_split (n : Nat) : ∀ (m k x : Nat), digs n (m + 1 + (k + 1)) x = digs n (m + 1) (x % 2 ^ (n * (m + 1))) ++ digs n (k + 1) (x / 2 ^ (n * (m + 1)))
  | 0, k, x => by
    rw [show 0 + 1 + (k + 1) = k + 2 by (first | lia | omega), digs, Nat.zero_add, Nat.mul_one]
    rfl
  | m + 1, k, x => by
    rw [show m + 1 + 1 + (k + 1) = (m + 1 + k) + 2 by (first | lia | omega), digs, show m + 1 + k + 1 = m + 1 + (k + 1) by (first | lia | omega), digs_split n m k]
    rw [show digs n (m + 1 + 1) (x % 2 ^ (n * (m + 1 + 1))) = (((x % 2 ^ (n * (m + 1 + 1))) % 2 ^ n : Nat) : Int) :: digs n (m + 1) ((x % 2 ^ (n * (m + 1 + 1))) / 2 ^ n) from rfl]
    have e1 : 2 ^ (n * (m + 1 + 1)) = 2 ^ n * 2 ^ (n * (m + 1)) := by rw [← Nat.pow_add]; congr 1; rw [Nat.mul_add n (m + 1) 1]; (first | lia | omega)
    have e2 : x % 2 ^ (n * (m + 1 + 1)) % 2 ^ n = x % 2 ^ n := by rw [e1, Nat.mod_mul_right_mod]
    have e3 : x % 2 ^ (n * (m + 1 + 1)) / 2 ^ n = x / 2 ^ n % 2 ^ (n * (m + 1)) := by rw [e1, Nat.mod_mul_right_div_self]
    have e4 : x / 2 ^ (n * (m + 1 + 1)) = x / 2 ^ n / 2 ^ (n * (m + 1)) := by rw [e1, Nat.div_div_eq_div_mul]
    rw [e2, e3, e4]
    rfl

noncomputable def putAt (xs : List Int) (l : Nat) (ds : List Int) : List Int := xs.take l ++ ds ++ xs.drop (l + ds.length)
theorem putAt_one (xs : List Int) {l : Nat} (x : Int) (h : l < xs.length) : xs.set l x = putAt xs l [x] := by
  unfold putAt
  rw [List.set_eq_take_append_cons_drop, if_pos h]
  simp
theorem putAt_len (xs : List Int) {l : Nat} (ds : List Int) (h : l + ds.length ≤ xs.length) : (putAt xs l ds).length = xs.length := by
  unfold putAt; simp; (first | lia | omega)
theorem putAt_two (xs : List Int) {l : Nat} (a c : List Int) (h : l + a.length + c.length ≤ xs.length) : putAt (putAt xs l a) (l + a.length) c = putAt xs l (a ++ c) := by
  unfold putAt
  have e1 : (xs.take l ++ a ++ xs.drop (l + a.length)).take (l + a.length) = xs.take l ++ a := by
    rw [List.take_append_of_le_length (by simp; (first | lia | omega)), List.take_of_length_le (by simp; (first | lia | omega))]
  have e2 : (xs.take l ++ a ++ xs.drop (l + a.length)).drop (l + a.length + c.length) = xs.drop (l + (a ++ c).length) := by
    have e0 : (xs.take l ++ a).length = l + a.length := by simp; (first | lia | omega)
    rw [show l + a.length + c.length = (xs.take l ++ a).length + c.length by rw [e0], List.drop_length_add_append, List.drop_drop]
    congr 1; simp only [List.length_append]; (first | lia | omega)
  rw [e1, e2]; simp

section
variable {S : Sys} {sc : Scope} {ns : List Str} {base : Heap} {env : Env} {s s' s0 : Shared} {ρ : Ro} {rt : Nat → Addr} {b : Bool} {d : Nat} {q : Md} {p p1 p2 p' : PV} {mg mb : Str → Option Value}

theorem Fm.growBut {h h' : Heap} {D : Addr} (F : Fm S sc ns base env h ρ rt) (k : ∀ a o, a ≠ D → a ∉ S.TB → h.get? a = some o → h'.get? a = some o) (g : Gd S h') (hD : ∃ o, h'.get? D = some o) (hL : env.locals ≠ D) (hc : ¬ isCellOf env D)
    (ha : ∀ (i : Nat) (p : PV) (k' : Own), ρ[i]? = some (some (p, k')) → p.atom = true ∧ k' = .imm) : Fm S sc ns base env h' ρ rt where
  gd := g
  kind := F.kind
  kinds := F.kinds
  glob := F.glob
  blt := F.blt
  top := F.top
  alive := fun b o e => by
    obtain ⟨o', e'⟩ := F.alive b o e
    by_cases hb : b = D
    · exact hb ▸ hD
    · by_cases ht : b ∈ S.TB
      · obtain ⟨ps, e⟩ := tb_data g.tab ht; exact ⟨_, e⟩
      · exact ⟨o', k b o' hb ht e'⟩
  nsB := F.nsB
  ns1 := let ⟨m, n⟩ := F.ns1; ⟨m, n.at' fun o ho => k _ o hL F.nsTB ho⟩
  cellB := fun c hc' => by
    obtain ⟨a, v, n⟩ := F.cellB c hc'
    exact ⟨a, v, IsCell.at' n fun o ho => k _ o (fun e => hc (e ▸ hc')) (IsCell.notTB F.gd n) ho⟩
  cellInj := F.cellInj
  cellsAll := F.cellsAll
  len := F.len
  vars := fun i x p k' e1 e2 => by
    obtain ⟨v, fp, V⟩ := F.vars i x p k' e1 e2
    obtain ⟨hat, rfl⟩ := ha i p k' e2
    have := V.rp.atomNil hat
    subst this
    refine ⟨v, [], ?_, V.rp.mono fun b hb => (by cases hb), V.loc, fun hq => absurd rfl hq, V.sep⟩
    rcases V.rd with ⟨r1, m', r2, r3⟩ | ⟨r1, c, r2, r3⟩
    · exact .inl ⟨r1, m', r2.at' fun o ho => k _ o hL F.nsTB ho, r3⟩
    · exact .inr ⟨r1, c, r2, IsCell.at' r3 fun o ho => k _ o (fun e => hc (e ▸ ⟨x, r2⟩)) (IsCell.notTB F.gd r3) ho⟩

noncomputable abbrev i2dIn : Stmt := stAt (stBody (topAt 5)) 1

structure ICtx (S : Sys) (h : Heap) (f ca ci cn D : Addr) (qual : Str) (xs : List Int) (n : Nat) (doc pm cv ctv : Value) : Prop where
  gd : Gd S h
  fn : h.get? f = some (inFn "inner" qual (stParams i2dIn) (stBody i2dIn) (stScope i2dIn) [("n", cn), ("inner", ci), ("a_digits", ca)] doc pm cv ctv)
  fTB : f ∉ S.TB
  code : h.CodeRec cv qual
  cA : h.IsCell ca (some (.ref D))
  cI : h.IsCell ci (some (.ref f))
  cN : ∃ t, h.IsCell cn (some (.int n t))
  hT : S.hT.get? ca = none ∧ S.hT.get? ci = none ∧ S.hT.get? cn = none ∧ S.hT.get? D = none
  ne : ca ≠ ci ∧ ca ≠ cn ∧ ci ≠ cn
  DTB : D ∉ S.TB
  li : ∃ ws, h.PlainList D ws.toArray ∧ IntsAre ws xs

variable {f ca ci cn D : Addr} {qual : Str} {xs ys : List Int} {n : Nat} {doc pm cv ctv : Value}

theorem ICtx.neD {h : Heap} (C : ICtx S h f ca ci cn D qual xs n doc pm cv ctv) : f ≠ D ∧ ca ≠ D ∧ ci ≠ D ∧ cn ≠ D := by
  obtain ⟨ws, ⟨k, e⟩, _⟩ := C.li
  refine ⟨fun he => ?_, fun he => ?_, fun he => ?_, fun he => ?_⟩
  · have := C.fn; rw [he, e] at this; have h2 := congrArg Obj.data (Option.some.inj this); cases h2
  · obtain ⟨o, e1, e2⟩ := C.cA; rw [he, e] at e1; cases e1; cases e2
  · obtain ⟨o, e1, e2⟩ := C.cI; rw [he, e] at e1; cases e1; cases e2
  · obtain ⟨t, o, e1, e2⟩ := C.cN; rw [he, e] at e1; cases e1; cases e2

theorem ICtx.move {h h' : Heap} (C : ICtx S h f ca ci cn D qual xs n doc pm cv ctv) (g : Gd S h') (k : ∀ a o, a ≠ D → h.get? a = some o → h'.get? a = some o) (hl : ∃ ws, h'.PlainList D ws.toArray ∧ IntsAre ws ys) :
    ICtx S h' f ca ci cn D qual ys n doc pm cv ctv := by
  obtain ⟨n1, n2, n3, n4⟩ := C.neD
  refine ⟨g, k _ _ n1 C.fn, C.fTB, ?_, IsCell.at' C.cA fun o e => k _ o n2 e, IsCell.at' C.cI fun o e => k _ o n3 e, let ⟨t, e⟩ := C.cN; ⟨t, IsCell.at' e fun o e => k _ o n4 e⟩, C.hT, C.ne, C.DTB, hl⟩
  obtain ⟨c0, o0, vs0, t0, q1, q2, q3, q4⟩ := C.code
  refine ⟨c0, o0, vs0, t0, q1, k _ _ (fun he => ?_) q2, q3, q4⟩
  obtain ⟨ws, ⟨kk, e⟩, _⟩ := C.li
  rw [he, e] at q2; (first | obtain ⟨_, rfl, rfl⟩ := q2.inv | cases q2); (first | obtain ⟨_, rfl, rfl⟩ := q3.inv | cases q3)
theorem ICtx.keeps {h h' : Heap} (C : ICtx S h f ca ci cn D qual xs n doc pm cv ctv) (g : Gd S h') (k : ∀ a o, h.get? a = some o → h'.get? a = some o) : ICtx S h' f ca ci cn D qual xs n doc pm cv ctv :=
  C.move g (fun a o _ e => k a o e) (let ⟨ws, ⟨kk, e⟩, i⟩ := C.li; ⟨ws, ⟨kk, k _ _ e⟩, i⟩)

theorem look3' {cn ci cd : Addr} {n : Str} {c : Addr} (e : List.lookup n [(("n" : Str), cn), ("inner", ci), ("a_digits", cd)] = some c) : (n = "n" ∧ c = cn) ∨ (n = "inner" ∧ c = ci) ∨ (n = "a_digits" ∧ c = cd) := by
  rw [List.lookup_cons] at e
  cases h1 : n == "n" with
  | true => rw [h1] at e; cases e; exact .inl ⟨eq_of_beq h1, rfl⟩
  | false =>
    rw [h1, List.lookup_cons] at e
    cases h2 : n == "inner" with
    | true => rw [h2] at e; cases e; exact .inr (.inl ⟨eq_of_beq h2, rfl⟩)
    | false =>
      rw [h2, List.lookup_cons] at e
      cases h3 : n == "a_digits" with
      | true => rw [h3] at e; cases e; exact .inr (.inr ⟨eq_of_beq h3, rfl⟩)
      | false => rw [h3] at e; cases e
end
end Mine
open PySem PySem.Calls PyProof.Rows PySem.W
set_option Elab.async false
set_option autoImplicit false
set_option linter.unusedVariables false
namespace Mine

theorem xor_low (x s : Nat) : x ^^^ (x / 2 ^ s * 2 ^ s) = x % 2 ^ s := by
  apply Nat.eq_of_testBit_eq
  intro i
  rw [Nat.testBit_xor, Nat.mul_comm, Nat.testBit_two_pow_mul, Nat.testBit_mod_two_pow, Nat.testBit_div_two_pow]
  by_cases h : s ≤ i
  · have h1 : ¬ i < s := by (first | lia | omega)
    have h2 : s + (i - s) = i := by (first | lia | omega)
    simp [h, h1, Nat.add_comm, Nat.sub_add_cancel h]
  · have h1 : i < s := by (first | lia | omega)
    simp [h, h1]

theorem or_xor : ∀ (n x y : Nat), x < 2 ^ n → y < 2 ^ n → x ||| y = (x ^^^ y) + (x &&& y)
  | 0, x, y, hx, hy => by
    have : x = 0 := by simp at hx; exact hx
    have : y = 0 := by simp at hy; exact hy
    subst x; subst y; rfl
  | n + 1, x, y, hx, hy => by
    have ih := or_xor n (x / 2) (y / 2) (by rw [Nat.pow_succ] at hx; (first | lia | omega)) (by rw [Nat.pow_succ] at hy; (first | lia | omega))
    rw [← Nat.or_div_two, ← Nat.xor_div_two, ← Nat.and_div_two] at ih
    have m1 : (x ||| y) % 2 = max (x % 2) (y % 2) := by
      rw [show (2 : Nat) = 2 ^ 1 from rfl, Nat.or_mod_two_pow]
      have a : x % 2 = 0 ∨ x % 2 = 1 := by (first | lia | omega)
      have b : y % 2 = 0 ∨ y % 2 = 1 := by (first | lia | omega)
      rcases a with a | a <;> rcases b with b | b <;> (simp only [Nat.pow_one, a, b]; rfl)
    have m2 : (x ^^^ y) % 2 = (x + y) % 2 := by
      rw [show (2 : Nat) = 2 ^ 1 from rfl, Nat.xor_mod_two_pow]
      have a : x % 2 = 0 ∨ x % 2 = 1 := by (first | lia | omega)
      have b : y % 2 = 0 ∨ y % 2 = 1 := by (first | lia | omega)
      have c : (x + y) % 2 = (x % 2 + y % 2) % 2 := Nat.add_mod x y 2
      rcases a with a | a <;> rcases b with b | b <;> (simp only [Nat.pow_one, a, b, c]; rfl)
    have m3 : (x &&& y) % 2 = min (x % 2) (y % 2) := by
      rw [show (2 : Nat) = 2 ^ 1 from rfl, Nat.and_mod_two_pow]
      have a : x % 2 = 0 ∨ x % 2 = 1 := by (first | lia | omega)
      have b : y % 2 = 0 ∨ y % 2 = 1 := by (first | lia | omega)
      rcases a with a | a <;> rcases b with b | b <;> (simp only [Nat.pow_one, a, b]; rfl)
    have d1 := Nat.div_add_mod (x ||| y) 2
    have d2 := Nat.div_add_mod (x ^^^ y) 2
    have d3 := Nat.div_add_mod (x &&& y) 2
    (first | lia | omega)

theorem bitAnd_nat (x y : Nat) : Builtin.bitAnd x y = ((x &&& y : Nat) : Int) := by
  unfold Builtin.bitAnd
  have h1 : decide ((0 : Int) ≤ x) = true := decide_eq_true (by (first | lia | omega))
  have h2 : decide ((0 : Int) ≤ y) = true := decide_eq_true (by (first | lia | omega))
  rw [h1, h2]
  simp only [Int.toNat_natCast]
theorem bitXor_nat (x y : Nat) : Builtin.bitXor x y = ((x ^^^ y : Nat) : Int) := by
  have ho : Builtin.bitOr x y = ((x ||| y : Nat) : Int) := by
    unfold Builtin.bitOr Builtin.bitAnd Builtin.bitNot
    have h1 : decide ((0 : Int) ≤ -(x : Int) - 1) = false := decide_eq_false (by (first | lia | omega))
    have h2 : decide ((0 : Int) ≤ -(y : Int) - 1) = false := decide_eq_false (by (first | lia | omega))
    rw [h1, h2]
    have e1 : (-(-(x : Int) - 1) - 1).toNat = x := by (first | lia | omega)
    have e2 : (-(-(y : Int) - 1) - 1).toNat = y := by (first | lia | omega)
    simp only [e1, e2]
    (first | lia | omega)
  unfold Builtin.bitXor
  rw [ho, bitAnd_nat]
  have := or_xor (x + y) x y (Nat.lt_of_le_of_lt (Nat.le_add_right x y) Nat.lt_two_pow_self) (Nat.lt_of_le_of_lt (Nat.le_add_left y x) Nat.lt_two_pow_self)
  rw [this]
  push_cast
  (first | lia | omega)

theorem bits_lt {x B : Nat} (h : x < 2 ^ B) : Builtin.Int.intBits (x : Int) ≤ B := by
  unfold Builtin.Int.intBits
  by_cases h0 : x = 0
  · subst h0; simp
  · rw [if_neg (by simpa using h0), Int.natAbs_natCast]
    exact (Nat.log2_lt h0).mpr h

section
variable {S : Sys} {sc : Scope} {ns : List Str} {base : Heap} {env : Env} {s s' s0 : Shared} {ρ : Ro} {rt : Nat → Addr} {b : Bool} {d : Nat} {q : Md} {p p1 p2 p' : PV} {mg mb : Str → Option Value}
  {f ca ci cn D : Addr} {qual : Str} {xs ys : List Int} {n : Nat} {doc pm cv ctv : Value}

structure Mv (S : Sys) (D : Addr) (s s1 : Shared) : Prop where
  same : ∃ h tk, s1 = { s with heap := h, toks := tk }
  keep : ∀ a o, a ≠ D → s.heap.get? a = some o → s1.heap.get? a = some o
theorem Mv.kp {s1 s2 : Shared} (m : Mv S D s s1) (k : Kp S true s1 s2) : Mv S D s s2 := by
  obtain ⟨⟨h, tk, rfl⟩, kk⟩ := m
  obtain ⟨h', tk', rfl, k2, _⟩ := id k
  exact ⟨⟨h', tk', rfl⟩, fun a o hne e => k2 a o id (.inl rfl) (kk a o hne e)⟩
theorem Mv.store {L : Addr} {s1 : Shared} {h' : Heap} {tk : Nat} (m : Mv S D s s1) (hL : s.heap.get? L = none) (hs : Heap.SameBut L s1.heap h') : Mv S D s { s1 with heap := h', toks := tk } := by
  obtain ⟨⟨h, tk0, rfl⟩, kk⟩ := m
  refine ⟨⟨h', tk, rfl⟩, fun a o hne e => ?_⟩
  have : a ≠ L := fun he => by rw [he, hL] at e; cases e
  rw [hs.2 a this]; exact kk a o hne e
theorem Mv.trans {s1 s2 : Shared} (m : Mv S D s s1) (m' : Mv S D s1 s2) : Mv S D s s2 := by
  obtain ⟨⟨h, tk, rfl⟩, kk⟩ := m
  obtain ⟨⟨h', tk', rfl⟩, kk'⟩ := m'
  exact ⟨⟨h', tk', rfl⟩, fun a o hne e => kk' a o hne (kk a o hne e)⟩

noncomputable def ListIs (h : Heap) (D : Addr) (xs : List Int) : Prop := ∃ ws, h.PlainList D ws.toArray ∧ IntsAre ws xs
theorem ListIs.at {h h' : Heap} (l : ListIs h D xs) (k : ∀ o, h.get? D = some o → h'.get? D = some o) : ListIs h' D xs := let ⟨ws, ⟨n, e⟩, i⟩ := l; ⟨ws, ⟨n, k _ e⟩, i⟩

theorem list_set {A : Around} {l : Nat} {x : Int} {t tx : Tok} {Q : Unit → Shared → Prop} (L : ListIs s.heap D xs) (G : Gd S s.heap) (hT : S.hT.get? D = none) (hl : l < xs.length) (hz : xs.length < 2 ^ 20)
    (h : ∀ h', Heap.SameBut D s.heap h' → Gd S h' → ListIs h' D (xs.set l x) → Q () { s with heap := h' }) : wpAny (model S.prog S.w) A (setItem (.ref D) (.int l t) (.int x tx)) Q No s := by
  obtain ⟨ws, ⟨nw, ew⟩, iw⟩ := L
  have lw : ws.length = xs.length := iw.length
  refine ki_setAt ew (by (first | lia | omega)) (by (first | lia | omega)) (by rw [List.size_toArray]; (first | lia | omega)) ?_
  have sb : Heap.SameBut D s.heap (s.heap.update D (Obj.mapSeq (·.setIfInBounds (l : Int).toNat (.int x tx)))) := Heap.SameBut.update ..
  have eo : Obj.mapSeq (·.setIfInBounds (l : Int).toNat (.int x tx)) { cls := .type "list", data := .seq ws.toArray nw } = { cls := .type "list", data := .seq (ws.set l (.int x tx)).toArray nw } := by
    have : ws.toArray.setIfInBounds (l : Int).toNat (.int x tx) = (ws.set l (.int x tx)).toArray := by apply Array.toList_inj.mp; simp
    simp [Obj.mapSeq, this]
  have eg : (s.heap.update D (Obj.mapSeq (·.setIfInBounds (l : Int).toNat (.int x tx)))).get? D = some { cls := .type "list", data := .seq (ws.set l (.int x tx)).toArray nw } := by
    rw [Heap.get?_update_self _ ew (by rw [eo]; rfl), eo]
  refine h _ sb (G.sameBut sb hT (fun o e vs hd => by rw [ew] at e; cases e; cases hd) ⟨_, ew⟩) ⟨_, ⟨nw, eg⟩, ?_⟩
  clear eg eo sb lw ew h
  induction iw generalizing l with
  | nil => exact .nil
  | cons n t r ih =>
    cases l with
    | zero => exact .cons x tx r
    | succ l => exact .cons n t (ih (by simpa using hl) (by simp at hz; (first | lia | omega)))

theorem Rps.three {h : Heap} {p1 p2 p3 : PV} {vs : List Value} {fp : List Addr} (r : Rps S h vs [p1, p2, p3] fp) : ∃ v1 v2 v3, vs = [v1, v2, v3] ∧ (∃ f, Rp S h v1 p1 f) ∧ (∃ f, Rp S h v2 p2 f) ∧ ∃ f, Rp S h v3 p3 f := by
  cases r with
  | cons a b =>
    obtain ⟨v1, v2, f1, f2, rfl, _, r1, r2⟩ := Rps.two b
    exact ⟨_, _, _, rfl, ⟨_, a⟩, ⟨_, r1⟩, ⟨_, r2⟩⟩

theorem i2d_inner (W : S.Ok mg mb) (hnn : n < 2 ^ 20) {B : Nat} (hB : B ≤ 2 ^ 26) : ∀ (k l r x : Nat) (xs : List Int), r = l + k + 1 → r ≤ xs.length → xs.length < 2 ^ 20 → n * xs.length ≤ 2 ^ 26 → x < 2 ^ B → ∀ (A : Around) (s : Shared) (t0 t1 t2 : Tok) (Q : Value → Shared → Prop),
    Room (k + 1) A → ICtx S s.heap f ca ci cn D qual xs n doc pm cv ctv → (∀ s', Mv S D s s' → Gd S s'.heap → ListIs s'.heap D (putAt xs l (digs n (k + 1) x)) → Q .none s') →
    wpAny (model S.prog S.w) A (call (.ref f) [.int x t0, .int l t1, .int r t2]) Q No s := by
  intro k
  induction k using Nat.strongRecOn with
  | _ k ih =>
  intro l r x xs hr hrl hsz hnsz hx A s t0 t1 t2 Q R C hQ
  obtain ⟨tn, cNv⟩ := C.cN
  obtain ⟨nf, nca, nci, ncn⟩ := C.neD
  refine inner_call (d := k) W R C.gd C.fn C.code (pn := ["x", "L", "R"]) (fn := ["n"]) (rest := ["mid", "shift", "upper", "lower"]) (ps := [.int x, .int l, .int r]) (qs := [.int n]) (fp := []) rfl (by decide) (by decide) rfl rfl rfl (by decide) rfl
    (.cons (f1 := []) (.int _ _) (.cons (f1 := []) (.int _ _) (.cons (f1 := []) (.int _ _) .nil))) rfl (fun n c e => ?_) (fun n n' c e e' => ?_) (fun z hz => by cases hz) (fun i x p e e' => ?_) fun env h₀ tk eC eL kp kO R' F => ?_
  · rcases look3' e with ⟨_, rfl⟩ | ⟨_, rfl⟩ | ⟨_, rfl⟩
    · exact ⟨C.hT.2.2.1, _, cNv⟩
    · exact ⟨C.hT.2.1, _, C.cI⟩
    · exact ⟨C.hT.1, _, C.cA⟩
  · rcases look3' e with ⟨rfl, rfl⟩ | ⟨rfl, rfl⟩ | ⟨rfl, rfl⟩ <;> rcases look3' e' with ⟨rfl, h⟩ | ⟨rfl, h⟩ | ⟨rfl, h⟩ <;> first | rfl | (exfalso; first | exact C.ne.1 h | exact C.ne.2.1 h | exact C.ne.2.2 h | exact C.ne.1 h.symm | exact C.ne.2.1 h.symm | exact C.ne.2.2 h.symm)
  · have hi : i < 1 := (List.getElem?_eq_some_iff.mp e).1
    have : i = 0 := by (first | lia | omega)
    subst this
    cases e; cases e'
    exact ⟨by decide, by decide, cn, _, [], rfl, cNv, .int _ _, fun z hz => by cases hz⟩
  · have hL : s.heap.get? env.locals = none := by rw [eL]; exact fresh_size _
    have hLD : env.locals ≠ D := fun e => by obtain ⟨ws, ⟨_, e'⟩, _⟩ := C.li; rw [← e, hL] at e'; cases e'
    have hcD : ¬ isCellOf env D := fun ⟨nm, e⟩ => by
      rw [eC] at e
      rcases look3' e with ⟨_, h⟩ | ⟨_, h⟩ | ⟨_, h⟩
      · exact ncn h.symm
      · exact nci h.symm
      · exact nca h.symm
    have k0 : Kp S true s { s with heap := h₀, toks := tk } := Kp.of_keeps C.gd kp
    have m0 : Mv S D s { s with heap := h₀, toks := tk } := ⟨⟨h₀, tk, rfl⟩, fun a o _ e => kp a o e⟩
    refine wpAny_execs_cons (wpAny_If (Tr.go (b := true) (t := ((l : Int) + 1 == r)) (s := { s with heap := h₀, toks := tk }) R' F (Tr.cmp (q1 := .R) (q2 := .R) (Ev.op2 (q1 := .R) (q2 := .R) (Ev.var 1 rfl rfl rfl) Ev.cint o_add) (Ev.var 2 rfl rfl rfl) o_eq) fun s1 k1 => ?_))
    have F1 := F.kp k1
    have k01 := k0.trans k1
    have m1 := m0.kp k1
    have rdI : ∀ {h : Heap}, h.IsCell ci (some (.ref f)) → Reads env h "inner" (.ref f) := fun hc => .inr ⟨.inr ⟨by rw [kO]; rfl, by decide⟩, ci, by rw [eC]; rfl, hc⟩
    have rdA : ∀ {h : Heap}, h.IsCell ca (some (.ref D)) → Reads env h "a_digits" (.ref D) := fun hc => .inr ⟨.inr ⟨by rw [kO]; rfl, by decide⟩, ca, by rw [eC]; rfl, hc⟩
    have fnI : ∀ {h : Heap} {zs}, ICtx S h f ca ci cn D qual zs n doc pm cv ctv → FnAt f h := fun C => ⟨_, _, _, _, C.fn⟩
    by_cases hk : k = 0
    · subst hk
      have e1 : ((l : Int) + 1 == r) = true := by rw [hr]; simp
      rw [e1]
      simp only [if_true]
      refine wpAny_execs_cons (wpAny_Assign_Subscript (Ev.go (b := true) (q := .R) (p := .int x) R' F1 (Ev.var 0 rfl rfl rfl) fun v s2 fp k2 r2 _ => ?_))
      (first | obtain ⟨_, rfl, rfl⟩ := r2.inv | cases r2)
      have C2 := C.keeps k2.gd (k01.trans k2).keeps
      rcases rdA C2.cA with ⟨a, _⟩ | ⟨a, c, e, nn⟩
      · rw [kO] at a; cases a
      refine wpAny_Name (loadCF F.kind a e nn ?_) (by decide)
      refine Ev.go (b := true) (q := .R) (p := .int l) R' (F1.kp k2) (Ev.var 1 rfl rfl rfl) fun v s3 fp k3 r3 _ => ?_
      (first | obtain ⟨_, rfl, rfl⟩ := r3.inv | cases r3)
      have C3 := C.keeps k3.gd ((k01.trans k2).trans k3).keeps
      have m3 := (m1.kp k2).kp k3
      refine list_set C3.li k3.gd C.hT.2.2.2 (by (first | lia | omega)) hsz fun h4 sb g4 L4 => ?_
      refine wpAny_execs_cons (wpAny_Return_none ?_)
      have m4 : Mv S D s { s3 with heap := h4 } := ⟨let ⟨h, tk, e⟩ := m3.same; ⟨h4, tk, by rw [e]⟩, fun a o hne e => (sb.2 a hne).trans (m3.keep a o hne e)⟩
      rw [putAt_one xs _ (by (first | lia | omega))] at L4
      exact hQ _ m4 g4 L4
    · have e1 : ((l : Int) + 1 == r) = false := by
        refine beq_eq_false_iff_ne.mpr ?_
        (first | lia | omega)
      rw [e1]
      simp only [Bool.false_eq_true, if_false]
      refine wpAny_execs_nil ?_
      obtain ⟨m, hm⟩ : ∃ m, m = (l + r) / 2 := ⟨_, rfl⟩
      have hm1 : l < m := by (first | lia | omega)
      have hm2 : m < r := by (first | lia | omega)
      have em : ((l : Int) + r).fdiv (2 ^ (1 : Int).toNat) = (m : Int) := by
        rw [Int.fdiv_eq_ediv_of_nonneg _ (by decide)]
        show ((l : Int) + r) / 2 = m
        (first | lia | omega)
      obtain ⟨j, hj⟩ : ∃ j, m = l + j + 1 := ⟨m - l - 1, by (first | lia | omega)⟩
      obtain ⟨i, hi⟩ : ∃ i, r = m + i + 1 := ⟨r - m - 1, by (first | lia | omega)⟩
      have hki : k + 1 = j + 1 + (i + 1) := by (first | lia | omega)
      refine wpAny_execs_cons (wpAny_Assign_Name (Ev.go (b := true) (q := .R) (p := .int m) R' F1 (Ev.op2 (q1 := .R) (q2 := .R) (Ev.op2 (q1 := .R) (q2 := .R) (Ev.var 1 rfl rfl rfl) (Ev.var 2 rfl rfl rfl) o_add) Ev.cint ((o_shr (by decide)).to em)) fun v s2 fp k2 r2 _ => ?_))
      (first | obtain ⟨_, rfl, rfl⟩ := r2.inv | cases r2)
      refine store_loc (i := 4) (F1.kp k2) (by decide) rfl (by decide) (.int _ _) fun h3 tk3 rt3 hs3 F3 => ?_
      have k03 : Kp S true s { s2 with heap := h3, toks := tk3 } := (k01.trans k2).store hL hs3 F3.gd
      have es : ((m : Int) - l) * n = ((n * (j + 1) : Nat) : Int) := by
        have : (m : Int) - l = ((j + 1 : Nat) : Int) := by (first | lia | omega)
        rw [this, ← Int.natCast_mul, Nat.mul_comm]
      have hmul : IntMulOk ((m : Int) - l) n := .of_left (intBits_le_64 (by (first | lia | omega)) (by (first | lia | omega)))
      refine wpAny_execs_cons (wpAny_Assign_Name (Ev.go (b := true) (q := .R) (p := .int ((n * (j + 1) : Nat) : Int)) (s := { s2 with heap := h3, toks := tk3 }) R' F3 (Ev.op2 (q1 := .R) (q2 := .R) (Ev.op2 (q1 := .R) (q2 := .R) (Ev.var 4 rfl rfl rfl) (Ev.var 1 rfl rfl rfl) o_sub) (Ev.var 3 rfl rfl rfl) ((o_mul hmul).to es)) fun v s4 fp k4 r4 _ => ?_))
      (first | obtain ⟨_, rfl, rfl⟩ := r4.inv | cases r4)
      refine store_loc (i := 5) (F3.kp k4) (by decide) rfl (by decide) (.int _ _) fun h5 tk5 rt5 hs5 F5 => ?_
      have k05 : Kp S true s { s4 with heap := h5, toks := tk5 } := (k03.trans k4).store hL hs5 F5.gd
      have hsh : n * (j + 1) ≤ 2 ^ 26 := Nat.le_trans (Nat.mul_le_mul_left n (by (first | lia | omega))) hnsz
      -- upper
      have eu : (x : Int).fdiv (2 ^ ((n * (j + 1) : Nat) : Int).toNat) = ((x / 2 ^ (n * (j + 1)) : Nat) : Int) := by
        rw [Int.toNat_natCast, Int.fdiv_eq_ediv_of_nonneg _ (Int.le_of_lt (Int.pow_pos (by decide)))]
        rw [Int.natCast_ediv, Int.natCast_pow]; rfl
      refine wpAny_execs_cons (wpAny_Assign_Name (Ev.go (b := true) (q := .R) (p := .int ((x / 2 ^ (n * (j + 1)) : Nat) : Int)) (s := { s4 with heap := h5, toks := tk5 }) R' F5 (Ev.op2 (q1 := .R) (q2 := .R) (Ev.var 0 rfl rfl rfl) (Ev.var 5 rfl rfl rfl) ((o_shr (by (first | lia | omega))).to eu)) fun v s6 fp k6 r6 _ => ?_))
      (first | obtain ⟨_, rfl, rfl⟩ := r6.inv | cases r6)
      refine store_loc (i := 6) (F5.kp k6) (by decide) rfl (by decide) (.int _ _) fun h7 tk7 rt7 hs7 F7 => ?_
      have k07 : Kp S true s { s6 with heap := h7, toks := tk7 } := (k05.trans k6).store hL hs7 F7.gd
      -- lower
      have hup : x / 2 ^ (n * (j + 1)) < 2 ^ B := Nat.lt_of_le_of_lt (Nat.div_le_self _ _) hx
      have hlo : x % 2 ^ (n * (j + 1)) < 2 ^ B := Nat.lt_of_le_of_lt (Nat.mod_le _ _) hx
      have ex : Builtin.bitXor (x : Int) (((x / 2 ^ (n * (j + 1)) : Nat) : Int) * 2 ^ ((n * (j + 1) : Nat) : Int).toNat) = ((x % 2 ^ (n * (j + 1)) : Nat) : Int) := by
        rw [Int.toNat_natCast, show (((x / 2 ^ (n * (j + 1)) : Nat) : Int) * 2 ^ (n * (j + 1))) = ((x / 2 ^ (n * (j + 1)) * 2 ^ (n * (j + 1)) : Nat) : Int) by rw [Int.natCast_mul, Int.natCast_pow]; rfl, bitXor_nat, xor_low]
      have hsz2 : (Builtin.Int.intBits ((x / 2 ^ (n * (j + 1)) : Nat) : Int) : Int) + ((n * (j + 1) : Nat) : Int) ≤ 2 ^ 27 := by
        have := bits_lt hup; (first | lia | omega)
      refine wpAny_execs_cons (wpAny_Assign_Name (Ev.go (b := true) (q := .R) (p := .int ((x % 2 ^ (n * (j + 1)) : Nat) : Int)) (s := { s6 with heap := h7, toks := tk7 }) R' F7 (Ev.op2 (q1 := .R) (q2 := .R) (Ev.var 0 rfl rfl rfl) (Ev.op2 (q1 := .R) (q2 := .R) (Ev.var 6 rfl rfl rfl) (Ev.var 5 rfl rfl rfl) (o_shl (by (first | lia | omega)) hsz2)) (o_xor.to ex)) fun v s8 fp k8 r8 _ => ?_))
      (first | obtain ⟨_, rfl, rfl⟩ := r8.inv | cases r8)
      refine store_loc (i := 7) (F7.kp k8) (by decide) rfl (by decide) (.int _ _) fun h9 tk9 rt9 hs9 F9 => ?_
      have k09 : Kp S true s { s8 with heap := h9, toks := tk9 } := (k07.trans k8).store hL hs9 F9.gd
      have C9 := C.keeps F9.gd k09.keeps
      have m9 : Mv S D s { s8 with heap := h9, toks := tk9 } := ⟨let ⟨h, tk, e, _⟩ := k09; ⟨h, tk, e⟩, fun a o _ e => k09.keeps a o e⟩
      have hatom : ∀ (i : Nat) (p : PV) (k' : Own), (((((List.map (fun p => some (p, Own.imm)) [PV.int x, PV.int l, PV.int r] ++ List.map (fun p => some (p, Own.imm)) [PV.int n] ++ List.replicate (["mid", "shift", "upper", "lower"] : List Str).length none).set 4 (some (PV.int m, Own.imm))).set 5 (some (PV.int ((n * (j + 1) : Nat) : Int), Own.imm))).set 6 (some (PV.int ((x / 2 ^ (n * (j + 1)) : Nat) : Int), Own.imm))).set 7 (some (PV.int ((x % 2 ^ (n * (j + 1)) : Nat) : Int), Own.imm)))[i]? = some (some (p, k')) → p.atom = true ∧ k' = .imm := fun i p k' e => by
        have hi8 : i < 8 := (List.getElem?_eq_some_iff.mp e).1
        match i, hi8 with
        | 0, _ | 1, _ | 2, _ | 3, _ | 4, _ | 5, _ | 6, _ | 7, _ => cases e; exact ⟨rfl, rfl⟩
      refine wpAny_execs_cons (wpAny_Expr_any (call_named (s := { s8 with heap := h9, toks := tk9 }) (b := true) R' F9 (rdI C9.cI) (fnI C9) C.fTB (Evs.cons (q := .R) (Ev.var 7 rfl rfl rfl) (Evs.cons (Ev.var 1 rfl rfl rfl) (Evs.cons (Ev.var 4 rfl rfl rfl) Evs.nil))) fun vs s10 fp k10 r10 => ?_) (notInteractive (s := { s8 with heap := h9, toks := tk9 }) F9))
      obtain ⟨v1, v2, v3, rfl, q1, q2, q3⟩ := r10.three
      obtain ⟨_, q1⟩ := q1
      obtain ⟨_, q2⟩ := q2
      obtain ⟨_, q3⟩ := q3
      (first | obtain ⟨_, rfl, rfl⟩ := q1.inv | cases q1); (first | obtain ⟨_, rfl, rfl⟩ := q2.inv | cases q2); (first | obtain ⟨_, rfl, rfl⟩ := q3.inv | cases q3)
      have k010 := k09.trans k10
      have C10 := C.keeps k10.gd k010.keeps
      refine ih j (by (first | lia | omega)) l m _ xs (by (first | lia | omega)) (by (first | lia | omega)) hsz hnsz hlo _ s10 _ _ _ _ (R'.mono (by (first | lia | omega))) C10 fun s11 mv11 g11 L11 => ?_
      have C11 := C10.move g11 mv11.keep L11
      have hD11 : ∃ o, s11.heap.get? D = some o := by obtain ⟨ws, ⟨nw, e⟩, _⟩ := L11; exact ⟨_, e⟩
      have F11 := (F9.kp k10).growBut (fun a o hne _ e => mv11.keep a o hne e) g11 hD11 hLD hcD hatom
      have m11 := (m9.kp k10).trans mv11
      refine wpAny_execs_cons (wpAny_Expr_any (call_named (s := s11) (b := true) R' F11 (rdI C11.cI) (fnI C11) C.fTB (Evs.cons (q := .R) (Ev.var 6 rfl rfl rfl) (Evs.cons (Ev.var 4 rfl rfl rfl) (Evs.cons (Ev.var 2 rfl rfl rfl) Evs.nil))) fun vs s12 fp k12 r12 => ?_) (notInteractive F11))
      obtain ⟨v1, v2, v3, rfl, q1, q2, q3⟩ := r12.three
      obtain ⟨_, q1⟩ := q1
      obtain ⟨_, q2⟩ := q2
      obtain ⟨_, q3⟩ := q3
      (first | obtain ⟨_, rfl, rfl⟩ := q1.inv | cases q1); (first | obtain ⟨_, rfl, rfl⟩ := q2.inv | cases q2); (first | obtain ⟨_, rfl, rfl⟩ := q3.inv | cases q3)
      have hpl : (putAt xs l (digs n (j + 1) (x % 2 ^ (n * (j + 1))))).length = xs.length := putAt_len xs _ (by rw [digs_len]; (first | lia | omega))
      refine ih i (by (first | lia | omega)) m r _ _ (by (first | lia | omega)) (by rw [hpl]; (first | lia | omega)) (by rw [hpl]; exact hsz) (by rw [hpl]; exact hnsz) hup _ s12 _ _ _ _ (R'.mono (by (first | lia | omega))) (C11.keeps k12.gd k12.keeps) fun s13 mv13 g13 L13 => ?_
      refine wpAny_execs_nil ?_
      have m13 := (m11.kp k12).trans mv13
      have e2 : m = l + (digs n (j + 1) (x % 2 ^ (n * (j + 1)))).length := by rw [digs_len]; (first | lia | omega)
      rw [show putAt (putAt xs l (digs n (j + 1) (x % 2 ^ (n * (j + 1))))) m (digs n (i + 1) (x / 2 ^ (n * (j + 1)))) = putAt xs l (digs n (k + 1) x) by
        conv => lhs; rw [e2]
        rw [putAt_two xs _ _ (by rw [digs_len, digs_len]; (first | lia | omega)), ← digs_split, hki]] at L13
      exact hQ _ m13 g13 L13
end
end Mine
open PySem PySem.Calls PyProof.Rows PySem.W
set_option Elab.async false
set_option autoImplicit false
set_option linter.unusedVariables false
namespace Mine

noncomputable def nbits (a : Nat) : Nat := Builtin.Int.intBits (a : Int)
noncomputable def i2dLen (n a : Nat) : Nat := (nbits a + n - 1) / n
noncomputable def i2d (n a : Nat) : List Int := digs n (i2dLen n a) a

section
variable {S : Sys} {sc : Scope} {ns : List Str} {base : Heap} {env : Env} {s s' s0 : Shared} {ρ : Ro} {rt : Nat → Addr} {b : Bool} {d : Nat} {q : Md} {p p1 p2 p' : PV} {mg mb : Str → Option Value}
  {f ca ci cn D : Addr} {qual : Str} {xs ys : List Int} {n : Nat} {doc pm cv ctv : Value}

theorem Fm.moved {i : Nat} {x : Str} {ps : List PV} (F : Fm S sc ns base env s.heap ρ rt) (hn : ns[i]? = some x) (hρ : ρ[i]? = some (some (.list ps, .mut))) (mv : Mv S (rt i) s s') (g : Gd S s'.heap) (L : ListIs s'.heap (rt i) xs) :
    NextIs S sc ns true base env ρ rt s s' (ρ.set i (some (.ints xs, .mut))) := by
  obtain ⟨v, fp, V⟩ := F.vars i x _ _ hn hρ
  obtain ⟨v1, v2, ⟨ob, v3, v4, v5⟩, fp', v6, v7⟩ := V.own (by intro h; cases h)
  have lv := V.rp.lives (rt i) (by rw [v6]; exact .head _)
  obtain ⟨ws, ⟨nw, e⟩, iw⟩ := L
  have fl : ob.isFreed = false := (Heap.get?_some_iff.mp v3).2
  obtain ⟨⟨h', tk, rfl⟩, kk⟩ := mv
  let hm : Heap := h'.update (rt i) (fun _ => ob)
  have hmD : hm.get? (rt i) = some ob := Heap.get?_update_self _ e fl
  have hmN : ∀ z, z ≠ rt i → hm.get? z = h'.get? z := fun z hz => Heap.get?_update_other _ _ (Ne.symm hz)
  have sb : Heap.SameBut (rt i) hm h' := ⟨(Heap.SameBut.update h' (rt i) _).1.symm, fun z hz => (hmN z hz).symm⟩
  have hT : S.hT.get? (rt i) = none := F.topNone (v2 _ (by rw [v6]; exact .head _))
  have gm : Gd S hm := g.sameBut (Heap.SameBut.update ..) hT (fun o eo vs hd => by rw [show h'.get? (rt i) = _ from e] at eo; cases eo; cases hd) ⟨_, e⟩
  have k0 : Kp S true s { s with heap := hm, toks := tk } := ⟨hm, tk, rfl, fun z o _ _ ez => by
    by_cases hz : z = rt i
    · subst hz; rw [v3] at ez; cases ez; exact hmD
    · rw [hmN z hz]; exact kk z o hz ez, gm⟩
  have r : Rp S h' (.ref (rt i)) (.ints xs) [rt i] := .list lv.1 ⟨nw, e⟩ (Rps.ofInts iw)
  exact F.mutated k0 hn hρ V sb r (by intro h; cases h) (fun y hy => by cases hy) ⟨_, e, rfl, fun _ h => by cases h⟩ tk

theorem S1.go {A : Around} {st : Stmt} {Φ : Out → Prop} {Q : Flow → Shared → Prop} (R : Room d A) (F : Fm S sc ns base env s.heap ρ rt) (h : S1 S sc ns b d ρ st Φ) (hQ : ∀ o f s', Φ o → OutIs S sc ns b base env ρ rt s f s' o → Q f s') : wpAny (model S.prog S.w) A (exec st env) Q No s := h A base env s rt Q R F hQ

theorem ints_of {h : Heap} {ps : List PV} {D : Addr} {fp : List Addr} (hp : ps = xs.map .int) (r : Rp S h (.ref D) (.list ps) fp) : ListIs h D xs := by
  subst hp
  cases r with
  | list h1 h2 h3 => exact ⟨_, h2, h3.ints.1⟩

theorem i2d_ok {a c : Addr} {fd : FuncData} {t : Tab} {x n : Nat} (W : S.Ok mg mb) (T : TopFn S mg 5 a fd) (hc : fd.code = .ref c) (K : Maker S mg c t) (ht : t.line = (stPos i2dIn).line ∧ t.col = (stPos i2dIn).col)
    (hqn : fd.qualname ++ ".<locals>." ++ "inner" = t.qual) (hn0 : 0 < n) (hnn : n < 2 ^ 19) {B : Nat} (hB : B ≤ 2 ^ 19) (hx : x < 2 ^ B) (hd : i2dLen n x ≤ d) (hlen : GName S (stScope (topAt 5)) "len" (.builtin "len")) :
    CallOk S false (d + 1) (.ref a) [.int x, .int n] (.ints (i2d n x)) := by
  obtain ⟨o, ho, hdata⟩ := T.ob
  have hbit : nbits x ≤ B := bits_lt hx
  have hln : i2dLen n x < 2 ^ 20 := by
    have : i2dLen n x ≤ nbits x + n - 1 := Nat.div_le_self _ _
    (first | lia | omega)
  have hnl : n * i2dLen n x ≤ 2 ^ 26 := by
    have := Nat.mul_div_le (nbits x + n - 1) n
    unfold i2dLen
    (first | lia | omega)
  refine fn_ok0 (params := ["a", "n"]) (rest := ["a_digits", "inner"]) W ho hdata T.code T.body T.clo T.glob T.blt (by rw [T.scope]; rfl) (by rw [T.scope]; rfl) (by rw [T.scope]; rfl) (fun vs hv => ?_) rfl (by rw [T.scope]; decide) (by decide) fun A env base s Q R F hcode hqual hQ => ?_
  · exact vec2 (P := fun vs => bindArgs fd ⟨vs, []⟩ = pure ((["a", "n"] : List Str).zip vs)) (fun _ _ => bind_ok T.params T.dfl fun fd => rfl) vs hv
  · rw [T.scope] at F hQ
    have cell : ∀ x, (stScope (topAt 5)).names.lookup x = some .cell → ∃ c, env.cells.lookup x = some c := fun x e => Option.isSome_iff_exists.mp (F.cellsAll x e)
    obtain ⟨ca, hca⟩ := cell "a_digits" rfl
    obtain ⟨cn, hcn⟩ := cell "n" rfl
    obtain ⟨ci, hci⟩ := cell "inner" rfl
    have hne : ca ≠ ci ∧ ca ≠ cn ∧ ci ≠ cn := ⟨fun e => absurd (F.cellInj _ _ _ hca (e ▸ hci)) (by decide), fun e => absurd (F.cellInj _ _ _ hca (e ▸ hcn)) (by decide), fun e => absurd (F.cellInj _ _ _ hci (e ▸ hcn)) (by decide)⟩
    have hclos : closureFor (stScope i2dIn) env = pure [(("n" : Str), cn), ("inner", ci), ("a_digits", ca)] := by
      rw [closureFor_is (fun n k hm hk => ?_)]
      · show (pure [(("n" : Str), (env.cells.lookup ("n" : Str)).getD 0), ("inner", (env.cells.lookup ("inner" : Str)).getD 0), ("a_digits", (env.cells.lookup ("a_digits" : Str)).getD 0)] : Sem _) = _
        rw [hca, hcn, hci]; rfl
      · subst hk
        have : n = "a_digits" ∨ n = "inner" ∨ n = "n" := by
          have hm' : (n, NameKind.free) ∈ [(("x" : Str), NameKind.local), ("L", .local), ("R", .local), ("mid", .local), ("shift", .local), ("upper", .local), ("lower", .local), ("a_digits", .free), ("inner", .free), ("n", .free)] := hm
          simp at hm'
          exact hm'
        rcases this with rfl | rfl | rfl
        · rw [hca]; rfl
        · rw [hci]; rfl
        · rw [hcn]; rfl
    have hqi : qualnameIn env "inner" "inner" = t.qual := by
      unfold qualnameIn
      rw [if_neg, hqual, hqn]
      have := F.kindOf' (x := "inner") .cell rfl (by intro h; cases h)
      rw [this]; decide
    have el : (((Builtin.Int.intBits (x : Int) : Nat) : Int) + n - 1).fdiv n = ((i2dLen n x : Nat) : Int) := by
      rw [Int.fdiv_eq_ediv_of_nonneg _ (by (first | lia | omega))]
      unfold i2dLen nbits
      rw [Int.natCast_ediv]
      congr 1
      (first | lia | omega)
    have hl2 : (n : Int).natAbs.log2 < 9000 := by
      rw [Int.natAbs_natCast]
      exact Nat.lt_trans ((Nat.log2_lt (by (first | lia | omega))).mpr hnn) (by decide)
    refine wpAny_execs_cons ?_
    refine S1.go (b := false) (d := d) (Φ := fun o => o = .next _) R F (S1.assignOwn (p := .list (List.replicate (((i2dLen n x : Nat) : Int).toNat) (.int 0))) 2 rfl (Ev.op2 (q1 := .R) (q2 := .R) (Ev.list (Evs.cons Ev.cint Evs.nil)) (Ev.op2 (q1 := .R) (q2 := .R) (Ev.op2 (q1 := .R) (q2 := .R) (Ev.op2 (q1 := .R) (q2 := .R) (Ev.meth0 (q0 := .R) (p1 := .int x) PySem.F.plainAttrs_int PySem.F.slot_int_bit_length PySem.F.type_int_bit_length (Ev.var 0 rfl rfl rfl) (fun s v fp r => by (first | obtain ⟨_, rfl, rfl⟩ := r.inv | cases r); exact ⟨rfl, fun a h => by cases h⟩) c_bits) (Ev.var 1 rfl rfl rfl) o_add) Ev.cint o_sub) (Ev.var 1 rfl rfl rfl) ((o_fdiv (by (first | lia | omega)) hl2).to el)) (o_lmul (n := ((i2dLen n x : Nat) : Int)) rfl (by (first | lia | omega)) (by (first | lia | omega)))) (flat_atoms (by simp [PV.atom])) rfl (by decide) (by decide)) fun o f1 s1 hΦ oi => ?_
    subst hΦ
    obtain ⟨rfl, st1, rt1, ro1, F1⟩ := oi
    rw [Int.toNat_natCast] at F1 ro1
    generalize hρ1 : (List.map (fun p => some (p, Own.imm)) [PV.int x, PV.int n] ++ List.replicate (["a_digits", "inner"] : List Str).length none).set 2 (some (PV.list (List.replicate (i2dLen n x) (PV.int 0)), Own.mut)) = ρ1 at F1 ro1
    refine wpAny_execs_cons ?_
    show wpAny _ A (exec (.FunctionDef "inner" (stParams i2dIn) (stBody i2dIn) [] none [] (stScope i2dIn) none "inner" (stPos i2dIn)) env) _ No s1
    refine nestDef_K rfl rfl rfl ?_
    rw [hqi]
    refine make_ok W K F1.gd F1.glob (hcode.trans hc) hclos ht.1 ht.2 fun f h2 tk2 doc cv ctv kp2 g2 fr2 fTB hfn hcv => ?_
    have keep2 : ∀ x o, x ∉ S.TB → s1.heap.get? x = some o → h2.get? x = some o := fun x o hx e => kp2 x o id (.inr hx) e
    have F2 := F1.grow keep2 g2
    obtain ⟨hbI, v0, cI0⟩ := F2.cellB ci ⟨_, hci⟩
    refine wpAny_storeName_cell (s := { s1 with heap := h2, toks := tk2 }) F.kind (F.kindOf' .cell rfl (by intro h; cases h)) hci cI0 fun h3 cI3 hs3 => ?_
    have hxi : ∀ (i : Nat) (z : PV × Own), ((["a", "n"] : List Str) ++ (["a_digits", "inner"] : List Str))[i]? = some "inner" → ρ1[i]? ≠ some (some z) := fun i z e e' => by
      have hi4 : i < 4 := (List.getElem?_eq_some_iff.mp e).1
      subst hρ1
      match i, hi4 with
      | 0, _ => exact absurd e (by decide)
      | 1, _ => exact absurd e (by decide)
      | 2, _ => exact absurd e (by decide)
      | 3, _ => cases e'
    have F3 := F2.cellStore hci hs3 cI3 hxi
    have hfci : f ≠ ci := fun e => by
      obtain ⟨_, v, o, e1, _⟩ := F1.cellB ci ⟨_, hci⟩
      rw [← e, fr2] at e1; cases e1
    have hρA : ρ1[2]? = some (some (.list (List.replicate (i2dLen n x) (.int 0)), .mut)) := by subst hρ1; rfl
    have hρN : ρ1[1]? = some (some (.int n, .imm)) := by subst hρ1; rfl
    have hρX : ρ1[0]? = some (some (.int x, .imm)) := by subst hρ1; rfl
    obtain ⟨va, fpa, Va⟩ := F3.vars 2 "a_digits" _ _ rfl hρA
    obtain ⟨w1, w2, ⟨ob, w3, w4, w5⟩, fpa', w6, w7⟩ := Va.own (by intro h; cases h)
    subst w1
    have cA : h3.IsCell ca (some (.ref (rt1 2))) := by
      rcases Va.rd with ⟨r1, _⟩ | ⟨_, c, r2, r3⟩
      · rw [F.kindOf' .cell rfl (by intro h; cases h)] at r1; (first | obtain ⟨_, rfl, rfl⟩ := r1.inv | cases r1)
      · rw [hca] at r2; (first | obtain ⟨_, rfl, rfl⟩ := r2.inv | cases r2); exact r3
    have cNr : ∃ tn, h3.IsCell cn (some (.int n tn)) := by
      obtain ⟨v, fp, V⟩ := F3.vars 1 "n" _ _ rfl hρN
      rcases V.rd with ⟨r1, _⟩ | ⟨_, c, r2, r3⟩
      · rw [F.kindOf' .cell rfl (by intro h; cases h)] at r1; (first | obtain ⟨_, rfl, rfl⟩ := r1.inv | cases r1)
      · rw [hcn] at r2; (first | obtain ⟨_, rfl, rfl⟩ := r2.inv | cases r2)
        have := V.rp
        cases this
        exact ⟨_, r3⟩
    have hcv3 : h3.CodeRec cv t.qual := by
      obtain ⟨c0, o0, vs0, t0, q1, q2, q3, q4⟩ := hcv
      refine ⟨c0, o0, vs0, t0, q1, (hs3.2 _ fun he => ?_).trans q2, q3, q4⟩
      obtain ⟨oI, e1, e2⟩ := cI0
      rw [he, e1] at q2; (first | obtain ⟨_, rfl, rfl⟩ := q2.inv | cases q2); rw [e2] at q3; (first | obtain ⟨_, rfl, rfl⟩ := q3.inv | cases q3)
    have hrep : List.replicate (i2dLen n x) (PV.int 0) = (List.replicate (i2dLen n x) (0 : Int)).map .int := by rw [List.map_replicate]
    have C : ICtx S h3 f ca ci cn (rt1 2) t.qual (List.replicate (i2dLen n x) 0) n doc ((mg "__name__").getD .none) cv ctv :=
      ⟨F3.gd, (hs3.2 _ hfci).trans hfn, fTB, hcv3, cA, cI3, cNr, ⟨F.topNone (F.cellB ca ⟨_, hca⟩).1, F.topNone (F.cellB ci ⟨_, hci⟩).1, F.topNone (F.cellB cn ⟨_, hcn⟩).1, F.topNone (w2 _ (by rw [w6]; exact .head _))⟩, hne,
        (Va.rp.lives _ (by rw [w6]; exact .head _)).1, ints_of hrep Va.rp⟩
    have st3 : Stp S false env ρ1 rt1 s1 { s1 with heap := h3, toks := tk2 } := by
      refine ⟨⟨h3, tk2, rfl⟩, fun x o hx hb e => ?_, fun x o e => ?_⟩
      · have : x ≠ ci := fun he => hx (.inr (.inl (he ▸ ⟨_, hci⟩)))
        exact (hs3.2 x this).trans (kp2 x o id hb e)
      · by_cases hxc : x = ci
        · obtain ⟨oI, e1, _⟩ := cI3; exact ⟨oI, hxc ▸ e1⟩
        · obtain ⟨o', e'⟩ := TabOk.alive g2 keep2 x o e
          exact ⟨o', (hs3.2 x hxc).trans e'⟩
    -- the return of the list
    have fin : ∀ {s5 : Shared} {ρ5 : Ro} {rt5 : Nat → Addr} {fl : Flow} {s6 : Shared}, Stp S false env ρ1 rt1 { s1 with heap := h3, toks := tk2 } s5 → RootOk ρ1 rt1 h3 ρ5 rt5 → OutIs S (stScope (topAt 5)) ((["a", "n"] : List Str) ++ (["a_digits", "inner"] : List Str)) false base env ρ5 rt5 s5 fl s6 (.ret (.ints (i2d n x))) → Q fl s6 := fun st5 ro5 oi =>
      hQ _ _ (OutIs.trans st1 ro1 (OutIs.trans st3 .refl (OutIs.trans st5 ro5 oi)))
    refine wpAny_execs_cons (wpAny_If (Tr.go (b := true) (s := { s1 with heap := h3, toks := tk2 }) R F3 (Tr.int (q1 := .R) (Ev.var 0 rfl hρX rfl)) fun s4 k4 => ?_))
    by_cases hx0 : x = 0
    · have e1 : ((x : Int) != 0) = false := by rw [hx0]; rfl
      rw [e1]
      simp only [Bool.false_eq_true, if_false]
      refine wpAny_execs_nil ?_
      refine wpAny_execs_cons (S1.go (b := false) (Φ := fun o => o = .ret (.ints (i2d n x))) R (F3.kp k4) (S1.retOwn 2 rfl hρA (by intro h; cases h) ?_) fun o f5 s5 hΦ oi => ?_)
      · have e2 : i2dLen n x = 0 := by
          unfold i2dLen nbits
          rw [hx0]
          show (0 + n - 1) / n = 0
          exact Nat.div_eq_of_lt (by (first | lia | omega))
        unfold i2d
        rw [e2]; rfl
      · subst hΦ
        have := fin (.ofKp k4.weak) .refl oi
        obtain ⟨v, fp, rfl, _⟩ := oi
        exact this
    · have e1 : ((x : Int) != 0) = true := by simpa using hx0
      rw [e1]
      simp only [if_true]
      have C4 := C.keeps k4.gd k4.keeps
      have F4 := F3.kp k4
      have hl0 : 0 < i2dLen n x := by
        unfold i2dLen
        have : 0 < nbits x := by unfold nbits Builtin.Int.intBits; rw [if_neg (by simpa using hx0)]; (first | lia | omega)
        exact Nat.div_pos (by (first | lia | omega)) hn0
      refine wpAny_execs_cons (wpAny_Expr_any (call_named (s := s4) (b := true) R F4 (.inr ⟨.inl (F.kindOf' .cell rfl (by intro h; cases h)), ci, hci, C4.cI⟩) ⟨_, _, _, _, C4.fn⟩ fTB (Evs.cons (q := .R) (Ev.var 0 rfl hρX rfl) (Evs.cons Ev.cint (Evs.cons (Ev.call (q1 := .R) hlen (.blt _) (Evs.cons (Ev.var 2 rfl hρA rfl) Evs.nil) (c_lenList (by rw [List.length_replicate]; (first | lia | omega)))) Evs.nil))) fun vs s5 fp k5 r5 => ?_) (notInteractive F4))
      obtain ⟨v1, v2, v3, rfl, q1, q2, q3⟩ := r5.three
      obtain ⟨_, q1⟩ := q1
      obtain ⟨_, q2⟩ := q2
      obtain ⟨_, q3⟩ := q3
      (first | obtain ⟨_, rfl, rfl⟩ := q1.inv | cases q1); (first | obtain ⟨_, rfl, rfl⟩ := q2.inv | cases q2); (first | obtain ⟨_, rfl, rfl⟩ := q3.inv | cases q3)
      rw [List.length_replicate]
      refine i2d_inner W (Nat.lt_trans hnn (by decide)) (B := B) (by (first | lia | omega)) (i2dLen n x - 1) 0 (i2dLen n x) x _ (by (first | lia | omega)) (by rw [List.length_replicate]; exact Nat.le_refl _) (by rw [List.length_replicate]; exact hln) (by rw [List.length_replicate]; exact hnl) hx _ s5 _ _ _ _ (R.mono (by (first | lia | omega))) (C4.keeps k5.gd k5.keeps) fun s6 mv6 g6 L6 => ?_
      have e3 : putAt (List.replicate (i2dLen n x) 0) 0 (digs n (i2dLen n x - 1 + 1) x) = i2d n x := by
        rw [Nat.sub_add_cancel hl0]
        unfold putAt i2d
        rw [List.take_zero, List.nil_append, List.drop_of_length_le (by rw [digs_len, List.length_replicate]; (first | lia | omega)), List.append_nil]
      rw [e3] at L6
      refine wpAny_execs_nil ?_
      have F5 := F4.kp k5
      obtain ⟨st6, rt6, ro6, F6⟩ := F5.moved (i := 2) rfl hρA mv6 g6 L6
      have hρ6 : (ρ1.set 2 (some (.ints (i2d n x), Own.mut)))[2]? = some (some (.ints (i2d n x), .mut)) := by subst hρ1; rfl
      refine wpAny_execs_cons (S1.go (b := false) (Φ := fun o => o = .ret (.ints (i2d n x))) R F6 (S1.retOwn 2 rfl hρ6 (by intro h; cases h) rfl) fun o f7 s7 hΦ oi => ?_)
      subst hΦ
      have k45 := k4.trans k5
      have st36 : Stp S false env ρ1 rt1 { s1 with heap := h3, toks := tk2 } s6 := by
        have a : Stp S true env ρ1 rt1 { s1 with heap := h3, toks := tk2 } s6 := (Stp.ofKp k45).trans .refl st6
        exact ⟨a.same, fun x o hx hb e => a.keep x o hx (.inl rfl) e, a.alive⟩
      have := fin st36 (RootOk.trans (b := true) (env := env) (Stp.ofKp k45) .refl ro6) oi
      obtain ⟨v, fp, rfl, _⟩ := oi
      exact this
end
end Mine
open PySem PySem.Calls PyProof.Rows PySem.W
set_option Elab.async false
set_option autoImplicit false
set_option linter.unusedVariables false
namespace Mine
section
variable {S : Sys} {sc : Scope} {ns : List Str} {base : Heap} {env : Env} {s s' s0 : Shared} {ρ : Ro} {rt : Nat → Addr} {b : Bool} {d : Nat} {q : Md} {p p1 p2 p' : PV} {mg mb : Str → Option Value}

theorem callType_okM {A : Around} {T : String} {pos : Pos} {e : Expr} {es : List Expr} {ps : List PV} {Q : Value → Shared → Prop} (ha : Evs S sc ns b d q ρ (e :: es) ps) (R : Room d A) (F : Fm S sc ns base env s.heap ρ rt)
    (he : starEach (e :: es) env = (false, eval e env) :: starEach es env) (hp : (backTo pos (starEach (e :: es) env)).any (·.1) = false)
    (h : ∀ vs s' fp, Kp S b s s' → Rps S s'.heap vs ps fp → MdOk q s env ρ rt fp → wpAny (model S.prog S.w) A (call (.type T) vs) Q No s') :
    wpAny (model S.prog S.w) A (callWith pos (.type T) [] (backTo pos (starEach (e :: es) env)) []) Q No s := by
  have hb : backTo pos (starEach (e :: es) env) = (false, eval e env) :: backTo pos (starEach es env) := by rw [he]; rfl
  refine PySem.callWith_type hp ?_
  have := ha A base env s rt pos (fun vs s' => wpAny (model S.prog S.w) A (call (.type T) ([] ++ vs) []) Q No s') R F fun vs s' fp k r m => h vs s' fp k r m
  rw [hb] at this ⊢
  exact evalArgs_plain this

theorem walks_lt {prog : Program} {w : World} {A : Around} {I : Addr} {fp wr : List Addr} {n : Nat} {P : Nat → Value → Prop} {St : Nat → Heap → Prop} (W : Walks prog w A I fp wr n P St) : Walks prog w A I fp wr n (fun j v => j < n ∧ P j v) St where
  sub := W.sub
  frame := W.frame
  item := fun i s Q E hi x hQ => W.item i s Q E hi x fun v h' tk hp st keep => hQ v h' tk ⟨hi, hp⟩ st keep
  done := W.done
  self := W.self

theorem It.reversed {e : Expr} {np pos : Pos} {ps : List PV} (g : GName S sc "reversed" (.type "reversed")) (h : Ev S sc ns b d .N ρ e (.list ps)) (ha : ps.all (·.atom) = true)
    (he : ∀ env, starEach [e] env = [(false, eval e env)] := by intro _; rfl) : It S sc ns b d ρ (.Call (.Name "reversed" np) [e] [] pos) ps.reverse := by
  intro A base env s rt Q R F hQ
  have ht : backTo pos (starEach [e] env) = [(false, eval e env)] := by rw [he env]; rfl
  refine wpAny_Call_NameR (g.eval F ?_ (by decide))
  refine callType_okM (Evs.cons h Evs.nil (fun env => he env)) R F (he env) (by rw [ht]; rfl) fun vs s1 fp k r m => ?_
  obtain ⟨v, rfl, r'⟩ := r.one
  cases r' with
  | @list a vs _ fpl g1 g2 g3 =>
  have e0 := g3.allAtoms ha
  subst e0
  refine call_reversed_list g2.isList ?_
  have keep := Heap.push_keeps (h := s1.heap) (revObj a ((vs.toArray.size : Int) - 1))
  have hit : (s1.heap.push (revObj a ((vs.toArray.size : Int) - 1))).IsRevIter s1.heap.objs.size a ((vs.toArray.size : Int) - 1) := ⟨_, Heap.get?_push_size _ rfl, rfl, rfl⟩
  refine wpAny_pyIter_revIter (s := { s1 with heap := s1.heap.push (revObj a ((vs.toArray.size : Int) - 1)) }) hit ?_
  obtain ⟨n, e⟩ := id g2
  have hne : a ≠ s1.heap.objs.size := fresh_ne e
  have W := walks_lt (Walks.listRev (prog := S.prog) (w := S.w) R.hd s1.heap.objs.size a hne vs.toArray)
  have hsz : vs.toArray.size = ps.reverse.length := by rw [List.size_toArray, g3.length, List.length_reverse]
  have hsz' : vs.length = ps.length := g3.length
  rw [hsz] at W
  refine hQ _ s1.heap.objs.size [s1.heap.objs.size, a] _ _ ⟨k.trans (Kp.of_keeps (tk := s1.toks) k.gd keep), k.dead (fresh_size _), W, ?_, fun x hx => ?_, fun j h st => ?_, fun j v hv => ?_⟩
  · refine ⟨Nat.zero_le _, ?_, g2.isList.at fun o e => keep _ o e⟩
    rw [← hsz]; simpa using hit
  · rcases List.mem_cons.mp hx with rfl | hx
    · refine ⟨size_notTB k.gd, fun ho => ?_, _, Heap.get?_push_size _ rfl⟩
      exact MdOk.ofF F (fp := [s1.heap.objs.size]) (fun y hy => by cases hy with | head => exact k.dead (fresh_size _) | tail _ h => cases h) .N _ (.head _) ho
    · rcases List.mem_cons.mp hx with rfl | hx
      · exact ⟨g1, m _ (.head _), _, keep _ _ e⟩
      · cases hx
  · obtain ⟨_, ⟨o, e1, e2, e3⟩, _⟩ := st
    exact ⟨o, _, e1, (by rw [e2]; intro h; cases h), e3, fun x t h => by simp [rawInt] at h⟩
  · obtain ⟨hj, hv⟩ := hv
    rw [List.length_reverse] at hj hv
    have hv' : vs[ps.length - 1 - j]? = some v := by simpa using hv
    obtain ⟨p, f, e1, e2, e3⟩ := g3.get' hv'
    have : f = [] := List.eq_nil_iff_forall_not_mem.mpr fun x hx => by cases e3 x hx
    subst this
    exact ⟨p, [], by rw [List.getElem?_reverse hj]; exact e1, e2.mono fun x hx => (by cases hx), Clean.nil⟩

theorem reverse_rps {h : Heap} {vs : List Value} {ps : List PV} (r : Rps S h vs ps []) : Rps S h vs.reverse ps.reverse [] := by
  have gen : ∀ {vs : List Value} {ps : List PV} {fp : List Addr}, Rps S h vs ps fp → fp = [] → Rps S h vs.reverse ps.reverse [] := by
    intro vs
    induction vs with
    | nil => intro ps fp r e; (first | obtain ⟨_, rfl, rfl⟩ := r.inv | cases r); exact .nil
    | cons v vs ih =>
      intro ps fp r e
      cases r with
      | cons a b =>
        obtain ⟨e1, e2⟩ := List.append_eq_nil_iff.mp e
        subst e1; subst e2
        rw [List.reverse_cons, List.reverse_cons]
        have := (ih b rfl).append (.cons (f1 := []) a .nil)
        simpa using this
  exact gen r rfl

theorem S1.reverse {x : Str} {xp ap cp pos : Pos} {ps : List PV} {Φ : Out → Prop} (i : Nat) (hn : ns[i]? = some x) (hρ : ρ[i]? = some (some (.list ps, .mut))) (ha : ps.all (·.atom) = true) (hsz : ps.length ≤ sizeLine)
    (hΦ : Φ (.next (ρ.set i (some (.list ps.reverse, .mut))))) (hd : (x == ("__debug__" : Str)) = false := by decide)
    (hline : (ap.endLine == cp.line) = true := by rfl)
    (hs : ∀ env, swapsWith (.Call (.Attribute (.Name x xp) "reverse" ap) [] [] cp) none pos.line env = pure false := by intro _; rfl) :
    S1 S sc ns b d ρ (.Expr (.Call (.Attribute (.Name x xp) "reverse" ap) [] [] cp) pos) Φ := by
  intro A base env s rt Q R F hQ
  obtain ⟨v, fp, V⟩ := F.vars i x _ _ hn hρ
  obtain ⟨v1, v2, ⟨ob, v3, v4, v5⟩, fp0', v6, v7⟩ := V.own (by intro h; cases h)
  subst v1
  have rp := V.rp
  cases rp with
  | @list _ vs _ fpl g1 g2 g3 =>
  have e0 := g3.allAtoms ha
  subst e0
  obtain ⟨n, e⟩ := id g2
  refine wpAny_Expr_any ?_ (notInteractive F) (hs env)
  refine wpAny_Call_method (T := "list") (id := "list.reverse") rfl rfl hline PySem.F.plainAttrs_list PySem.F.slot_list_reverse PySem.F.type_list_reverse (Var.name F V hd ?_)
  refine ⟨⟨_, e, rfl⟩, fun a ha => ⟨_, by cases ha; exact e, rfl⟩, callWith_builtin rfl (PySem.evalArgs_none ?_)⟩
  refine call_meets PySem.F.slot_list_reverse ⟨_, e, rfl⟩ PySem.F.entry_list_reverse (PySem.F.args_list_reverse_1 _) (AutoListH.list_reverse_list_0 (rt i) vs.toArray n (by rw [List.size_toArray, g3.length]; exact hsz)) ⟨e, ?_⟩
  have sb : Heap.SameBut (rt i) s.heap (s.heap.update (rt i) (Obj.mapSeq fun x => x.reverse)) := Heap.SameBut.update ..
  have eo : Obj.mapSeq (fun x => x.reverse) { cls := .type "list", data := .seq vs.toArray n } = { cls := .type "list", data := .seq vs.reverse.toArray n } := by
    simp [Obj.mapSeq]
  have eg : (s.heap.update (rt i) (Obj.mapSeq fun x => x.reverse)).get? (rt i) = some { cls := .type "list", data := .seq vs.reverse.toArray n } := by
    rw [Heap.get?_update_self _ e (by rw [eo]; rfl), eo]
  have new : Rps S (s.heap.update (rt i) (Obj.mapSeq fun x => x.reverse)) vs.reverse ps.reverse [] := (reverse_rps g3).mono fun y hy => by cases hy
  exact hQ _ .next _ hΦ ⟨rfl, F.mutated (b := b) (Kp.refl F.gd) hn hρ V sb (.list g1 ⟨n, eg⟩ new) (by intro h; cases h) (fun y hy => by cases hy) ⟨_, eg, rfl, fun _ h => by cases h⟩ s.toks⟩
end
end Mine
open PySem PySem.Calls PyProof.Rows PySem.W
set_option Elab.async false
set_option autoImplicit false
set_option linter.unusedVariables false
namespace Mine
section
variable {S : Sys} {sc : Scope} {ns : List Str} {base : Heap} {env : Env} {s s' s0 : Shared} {ρ ρ' : Ro} {rt : Nat → Addr} {b : Bool} {d : Nat} {q : Md} {p p1 p2 p' : PV} {mg mb : Str → Option Value}

theorem Le.nil : Le [] [] := ⟨rfl, fun i x e => by simp at e⟩
theorem Le.same {y : Option (PV × Own)} (h : Le ρ' ρ) : Le (y :: ρ') (y :: ρ) := ⟨by simp [h.1], fun i x e => by
  cases i with
  | zero => exact e
  | succ i => exact h.2 i x (by simpa using e)⟩
theorem Le.drop {y : Option (PV × Own)} (h : Le ρ' ρ) : Le (none :: ρ') (y :: ρ) := ⟨by simp [h.1], fun i x e => by
  cases i with
  | zero => simp at e
  | succ i => exact h.2 i x (by simpa using e)⟩

structure Bn (mg : Str → Option Value) : Prop where
  len : mg "len" = none
  range : mg "range" = none
  sum : mg "sum" = none
  max : mg "max" = none
  min : mg "min" = none
  list : mg "list" = none
  hex : mg "hex" = none
  divmod : mg "divmod" = none
  reversed : mg "reversed" = none
  sorted : mg "sorted" = none

noncomputable def numStep (vs cur : List Int) (k : Nat) : List Int := cur.set (k % cur.length) (cur.getD (k % cur.length) 0 + (vs.getD k 0).fmod 1000000)
noncomputable def numAfter (vs st : List Int) (j : Nat) : List Int := (List.range j).foldl (numStep vs) st
theorem numStep_len (vs cur : List Int) (k : Nat) : (numStep vs cur k).length = cur.length := by simp [numStep]
theorem numAfter_succ (vs st : List Int) (j : Nat) : numAfter vs st (j + 1) = numStep vs (numAfter vs st j) j := by simp [numAfter, List.range_succ]
theorem numAfter_len (vs st : List Int) : ∀ j, (numAfter vs st j).length = st.length
  | 0 => rfl
  | j + 1 => by rw [numAfter_succ, numStep_len, numAfter_len vs st j]

theorem atoms_ints (l : List Int) : (l.map PV.int).all (·.atom) = true := by simp [PV.atom]
theorem atoms_strs (l : List Str) : (l.map PV.str).all (·.atom) = true := by simp [PV.atom]

theorem range_get {n j : Nat} {p : PV} (h : ((List.range n).map fun (i : Nat) => PV.int i)[j]? = some p) : j < n ∧ p = .int j := by
  rw [List.getElem?_map] at h
  by_cases hj : j < n
  · rw [List.getElem?_range hj] at h; cases h; exact ⟨hj, rfl⟩
  · rw [List.getElem?_eq_none (by simp; (first | lia | omega))] at h; cases h
theorem fmod_nat (a n : Nat) : (a : Int).fmod n = ((a % n : Nat) : Int) := by
  rw [Int.fmod_eq_emod_of_nonneg _ (by (first | lia | omega))]; rfl
theorem set_ints (l : List Int) (k : Nat) (x : Int) : (l.map PV.int).set k (.int x) = (l.set k x).map PV.int := by rw [List.map_set]
theorem get_ints {l : List Int} {k : Nat} (h : k < l.length) : (l.map PV.int)[k]? = some (.int (l.getD k 0)) := by
  rw [List.getElem?_map, List.getElem?_eq_getElem h]; simp [List.getD, List.getElem?_eq_getElem h]
theorem get_strs {l : List Str} {k : Nat} (h : k < l.length) : (l.map PV.str)[k]? = some (.str (l.getD k default)) := by
  rw [List.getElem?_map, List.getElem?_eq_getElem h]; simp [List.getD, List.getElem?_eq_getElem h]

theorem numbers_body {vs st : List Int} (W : S.Ok mg mb) (B : Bn mg) (hv : vs.length < 2 ^ 20) (h0 : 0 < st.length) (hs : st.length < 2 ^ 20) :
    Sx S (stScope (topAt 18)) ["script", "start", "numbers", "k"] b d [some (.ints vs, .imm), some (.ints st, .imm), none, none] (stBody (topAt 18)) (fun o => o = .ret (.ints (numAfter vs st vs.length))) := by
  refine Sx.cons (S1.assignOwn 2 rfl (Ev.call (q1 := .R) (.blt W rfl B.list rfl (by decide)) (.type _) (Evs.cons (Ev.var 1 rfl rfl rfl) Evs.nil) (c_list (atoms_ints _) (by simp only [List.length_map, sizeLine]; (first | lia | omega)))) (flat_atoms (atoms_ints _)) ?_ (by decide) (by decide))
  refine Sx.cons (S1.for 3 rfl (It.range1 (.blt W rfl B.range rfl (by decide)) (Ev.call (q1 := .R) (q := .R) (.blt W rfl B.len rfl (by decide)) (.blt _) (Evs.cons (Ev.var 0 rfl rfl rfl) Evs.nil) (c_lenList (by rw [List.length_map]; (first | lia | omega)))) (by (first | lia | omega)) (by rw [List.length_map]; (first | lia | omega)))
    (fun j => [some (.ints vs, .imm), some (.ints st, .imm), some (.ints (numAfter vs st j), .mut), none]) Le.refl ?_ ?_ (by decide) (by decide))
  · intro j p hj
    obtain ⟨hj', rfl⟩ := range_get hj
    clear hj
    rw [List.length_map, Int.toNat_natCast] at hj'
    have hm : j % st.length < st.length := Nat.mod_lt _ h0
    have hl := numAfter_len vs st j
    refine Sx.cons (S1.augItem (k := ((j % st.length : Nat) : Int)) (q1 := .R) (q2 := .R) 2 rfl rfl (Ev.op2 (q1 := .R) (q2 := .R) (Ev.var 3 rfl rfl rfl) (Ev.call (q1 := .R) (.blt W rfl B.len rfl (by decide)) (.blt _) (Evs.cons (Ev.var 1 rfl rfl rfl) Evs.nil) (c_lenList (by rw [List.length_map]; (first | lia | omega))))
      ((o_mod (by rw [List.length_map]; (first | lia | omega))).to (by rw [List.length_map]; exact fmod_nat _ _))) (by rw [Int.toNat_natCast]; exact get_ints (by rw [hl]; exact hm))
      (Ev.op2 (q1 := .R) (q2 := .R) (Ev.idxA (q0 := .R) (q1 := .R) (k := (j : Int)) (Ev.var 0 rfl rfl rfl) (Ev.var 3 rfl rfl rfl) (by (first | lia | omega)) (by (first | lia | omega)) (by rw [Int.toNat_natCast]; exact get_ints hj') rfl) Ev.cint (o_mod (by decide))) i_add rfl (atoms_ints _) (by (first | lia | omega)) (by (first | lia | omega)) ?_)
    refine Sx.nil ?_
    have e1 : numAfter vs st (j + 1) = (numAfter vs st j).set (j % st.length) ((numAfter vs st j).getD (j % st.length) 0 + (vs.getD j 0).fmod 1000000) := by rw [numAfter_succ]; unfold numStep; rw [hl]
    show Le [some (.ints vs, .imm), some (.ints st, .imm), some (.ints (numAfter vs st (j + 1)), .mut), none] _
    rw [Int.toNat_natCast, set_ints, e1]
    exact (Le.same (Le.same (Le.same (Le.drop Le.nil))))
  · refine Sx.nil ?_
    refine Sx.cons (S1.retOwn 2 rfl rfl (by intro h; cases h) ?_)
    show Out.ret _ = _
    rw [List.length_map, List.length_range, List.length_map, Int.toNat_natCast]
end
end Mine
open PySem PySem.Calls PyProof.Rows PySem.W
set_option Elab.async false
set_option autoImplicit false
set_option linter.unusedVariables false
namespace Mine
section
variable {S : Sys} {sc : Scope} {ns : List Str} {base : Heap} {env : Env} {s s' s0 : Shared} {ρ ρ' : Ro} {rt : Nat → Addr} {b : Bool} {d : Nat} {q : Md} {p p1 p2 p' : PV} {mg mb : Str → Option Value}

noncomputable def onNat {α : Type} (dflt : α) (g : Nat → α) : PV → α
  | .int i => g i.toNat
  | _ => dflt
noncomputable def onInt {α : Type} (dflt : α) (g : Int → α) : PV → α
  | .int i => g i
  | _ => dflt
noncomputable def onStr {α : Type} (dflt : α) (g : Str → α) : PV → α
  | .str i => g i
  | _ => dflt

theorem filt_map {α : Type} (inj : α → PV) (tst : PV → Bool) (f : PV → PV) (t : α → Bool) (g : α → PV) (h1 : ∀ a, tst (inj a) = t a) (h2 : ∀ a, f (inj a) = g a) : ∀ l : List α, ((l.map inj).filter tst).map f = (l.filter t).map g
  | [] => rfl
  | a :: l => by
    have ih := filt_map inj tst f t g h1 h2 l
    rw [List.map_cons, List.filter_cons, List.filter_cons, h1]
    cases t a
    · exact ih
    · simp only [if_true, List.map_cons, h2, ih]

theorem atoms_range (n : Nat) : ((List.range n).map fun (i : Nat) => PV.int i).all (·.atom) = true := by simp [PV.atom]

theorem Ev.compR {elt iter : Expr} {x : Str} {px : Pos} {ifs : List Expr} {scope : Scope} {pos : Pos} {n : Nat} {t : Nat → Bool} {f : Nat → PV} (caps : List Nat) (ok : CompOk sc ns scope x caps) (hit : It S sc ns b d ρ iter ((List.range n).map fun (i : Nat) => PV.int i))
    (hsz : n ≤ sizeLine) (ht : ∀ j, j < n → TrC S scope (capNs ns x caps) true d (capRo ρ (.int j) caps) ifs (t j))
    (he : ∀ j, j < n → t j = true → Ev S scope (capNs ns x caps) true d .R (capRo ρ (.int j) caps) elt (f j)) (hf : ∀ j, j < n → t j = true → (f j).atom = true)
    (hs : ∀ env x, foldedSetIterable iter env x = pure x := by intro _ _; rfl) : Ev S sc ns b d q ρ (.ListComp elt [⟨.Name x px, iter, ifs, 0⟩] scope pos) (.list (((List.range n).filter t).map f)) := by
  have key : ∀ p ∈ (List.range n).map (fun (i : Nat) => PV.int i), ∃ j, j < n ∧ p = .int (j : Int) := fun p hp => by
    obtain ⟨j, hj, rfl⟩ := List.mem_map.mp hp
    exact ⟨j, List.mem_range.mp hj, rfl⟩
  have := Ev.comp (q := q) (elt := elt) (px := px) (ifs := ifs) (pos := pos) (tst := onNat false t) (f := onNat .none f) caps ok hit (atoms_range n) (by simpa using hsz) (fun p hp => ?_) (fun p hp h => ?_) (fun p hp h => ?_) hs
  · rw [filt_map (fun (i : Nat) => PV.int i) (onNat false t) (onNat .none f) t f (fun a => by simp [onNat]) (fun a => by simp [onNat])] at this
    exact this
  · obtain ⟨j, hj, rfl⟩ := key p hp
    have := ht j hj
    simpa [onNat] using this
  · obtain ⟨j, hj, rfl⟩ := key p hp
    have := he j hj (by simpa [onNat] using h)
    simpa [onNat] using this
  · obtain ⟨j, hj, rfl⟩ := key p hp
    have := hf j hj (by simpa [onNat] using h)
    simpa [onNat] using this

theorem S1.assignCompR {elt iter : Expr} {x y : Str} {px py : Pos} {ifs : List Expr} {scope : Scope} {pos spos : Pos} {n : Nat} {t : Nat → Bool} {f : Nat → PV} {Φ : Out → Prop} (k : Own) (i : Nat) (hn : ns[i]? = some y) (caps : List Nat) (ok : CompOk sc ns scope x caps)
    (hit : It S sc ns b d ρ iter ((List.range n).map fun (i : Nat) => PV.int i)) (hsz : n ≤ sizeLine) (ht : ∀ j, j < n → TrC S scope (capNs ns x caps) true d (capRo ρ (.int j) caps) ifs (t j))
    (he : ∀ j, j < n → t j = true → Ev S scope (capNs ns x caps) true d .R (capRo ρ (.int j) caps) elt (f j)) (hf : ∀ j, j < n → t j = true → (f j).atom = true)
    (hΦ : Φ (.next (ρ.set i (some (.list (((List.range n).filter t).map f), k))))) (nd : ns.Nodup) (hk : sc.names.lookup y = some .local) (hl : (py.line == pos.line) = true := by rfl)
    (hv : (scope.names.any fun z => z.1 == y && (z.2 == .local || z.2 == .cell)) = false := by rfl)
    (hs : ∀ env x, foldedSetIterable iter env x = pure x := by intro _ _; rfl) :
    S1 S sc ns b d ρ (.Assign [.Name y py] (.ListComp elt [⟨.Name x px, iter, ifs, 0⟩] scope pos) spos) Φ := by
  have key : ∀ p ∈ (List.range n).map (fun (i : Nat) => PV.int i), ∃ j, j < n ∧ p = .int (j : Int) := fun p hp => by
    obtain ⟨j, hj, rfl⟩ := List.mem_map.mp hp
    exact ⟨j, List.mem_range.mp hj, rfl⟩
  refine S1.assignComp (tst := onNat false t) (f := onNat .none f) k i hn caps ok hit (atoms_range n) (by simpa using hsz) (fun p hp => ?_) (fun p hp h => ?_) (fun p hp h => ?_) ?_ nd hk hl hv hs
  · obtain ⟨j, hj, rfl⟩ := key p hp
    have := ht j hj
    simpa [onNat] using this
  · obtain ⟨j, hj, rfl⟩ := key p hp
    have := he j hj (by simpa [onNat] using h)
    simpa [onNat] using this
  · obtain ⟨j, hj, rfl⟩ := key p hp
    have := hf j hj (by simpa [onNat] using h)
    simpa [onNat] using this
  · rw [filt_map (fun (i : Nat) => PV.int i) (onNat false t) (onNat .none f) t f (fun a => by simp [onNat]) (fun a => by simp [onNat])]
    exact hΦ

theorem Ev.compI {elt iter : Expr} {x : Str} {px : Pos} {ifs : List Expr} {scope : Scope} {pos : Pos} {l : List Int} {t : Int → Bool} {f : Int → PV} (caps : List Nat) (ok : CompOk sc ns scope x caps) (hit : It S sc ns b d ρ iter (l.map .int))
    (hsz : l.length ≤ sizeLine) (ht : ∀ j, j ∈ l → TrC S scope (capNs ns x caps) true d (capRo ρ (.int j) caps) ifs (t j))
    (he : ∀ j, j ∈ l → t j = true → Ev S scope (capNs ns x caps) true d .R (capRo ρ (.int j) caps) elt (f j)) (hf : ∀ j, j ∈ l → t j = true → (f j).atom = true)
    (hs : ∀ env x, foldedSetIterable iter env x = pure x := by intro _ _; rfl) : Ev S sc ns b d q ρ (.ListComp elt [⟨.Name x px, iter, ifs, 0⟩] scope pos) (.list ((l.filter t).map f)) := by
  have key : ∀ p ∈ l.map PV.int, ∃ j, j ∈ l ∧ p = .int j := fun p hp => by
    obtain ⟨j, hj, rfl⟩ := List.mem_map.mp hp
    exact ⟨j, hj, rfl⟩
  have := Ev.comp (q := q) (elt := elt) (px := px) (ifs := ifs) (pos := pos) (tst := onInt false t) (f := onInt .none f) caps ok hit (atoms_ints l) (by simpa using hsz) (fun p hp => ?_) (fun p hp h => ?_) (fun p hp h => ?_) hs
  · rw [filt_map PV.int (onInt false t) (onInt .none f) t f (fun a => by simp [onInt]) (fun a => by simp [onInt])] at this
    exact this
  · obtain ⟨j, hj, rfl⟩ := key p hp; exact ht j hj
  · obtain ⟨j, hj, rfl⟩ := key p hp; exact he j hj h
  · obtain ⟨j, hj, rfl⟩ := key p hp; exact hf j hj h

theorem Ev.compS {elt iter : Expr} {x : Str} {px : Pos} {ifs : List Expr} {scope : Scope} {pos : Pos} {l : List Str} {t : Str → Bool} {f : Str → PV} (caps : List Nat) (ok : CompOk sc ns scope x caps) (hit : It S sc ns b d ρ iter (l.map .str))
    (hsz : l.length ≤ sizeLine) (ht : ∀ j, j ∈ l → TrC S scope (capNs ns x caps) true d (capRo ρ (.str j) caps) ifs (t j))
    (he : ∀ j, j ∈ l → t j = true → Ev S scope (capNs ns x caps) true d .R (capRo ρ (.str j) caps) elt (f j)) (hf : ∀ j, j ∈ l → t j = true → (f j).atom = true)
    (hs : ∀ env x, foldedSetIterable iter env x = pure x := by intro _ _; rfl) : Ev S sc ns b d q ρ (.ListComp elt [⟨.Name x px, iter, ifs, 0⟩] scope pos) (.list ((l.filter t).map f)) := by
  have key : ∀ p ∈ l.map PV.str, ∃ j, j ∈ l ∧ p = .str j := fun p hp => by
    obtain ⟨j, hj, rfl⟩ := List.mem_map.mp hp
    exact ⟨j, hj, rfl⟩
  have := Ev.comp (q := q) (elt := elt) (px := px) (ifs := ifs) (pos := pos) (tst := onStr false t) (f := onStr .none f) caps ok hit (atoms_strs l) (by simpa using hsz) (fun p hp => ?_) (fun p hp h => ?_) (fun p hp h => ?_) hs
  · rw [filt_map PV.str (onStr false t) (onStr .none f) t f (fun a => by simp [onStr]) (fun a => by simp [onStr])] at this
    exact this
  · obtain ⟨j, hj, rfl⟩ := key p hp; exact ht j hj
  · obtain ⟨j, hj, rfl⟩ := key p hp; exact he j hj h
  · obtain ⟨j, hj, rfl⟩ := key p hp; exact hf j hj h

theorem top_ok {k : Nat} {a : Addr} {fd : FuncData} {params rest : List Str} {ps : List PV} (W : S.Ok mg mb) (T : TopFn S mg k a fd) (h : Sx S (stScope (topAt k)) (params ++ rest) b d (ps.map (fun p => some (p, Own.imm)) ++ List.replicate rest.length none) (stBody (topAt k)) (fun o => o = .ret p))
    (hps : ps.length = params.length) (nd : (params ++ rest).Nodup) (hpk : params.all (locCell (stScope (topAt k))) = true) (hb : ∀ vs, vs.length = params.length → ∀ fd : FuncData, bindArgs { fd with params := stParams (topAt k), defaults := .none, kwdefaults := .none } ⟨vs, []⟩ = pure (params.zip vs))
    (hk : (stScope (topAt k)).kind = .function) (hco : (stScope (topAt k)).isCoroutine = false) (hgen : (stScope (topAt k)).isGenerator = false) : CallOk S b (d + 1) (.ref a) ps p := by
  obtain ⟨o, ho, hdata⟩ := T.ob
  refine fn_ok W ho hdata T.code T.body T.clo T.glob T.blt (by rw [T.scope]; exact hk) (by rw [T.scope]; exact hco) (by rw [T.scope]; exact hgen) (fun vs hv => bind_ok T.params T.dfl (hb vs hv)) hps (by rw [T.scope]; exact hpk) nd ?_
  rw [T.scope]; exact h

theorem numbers_ok {a : Addr} {fd : FuncData} {vs st : List Int} (W : S.Ok mg mb) (B : Bn mg) (T : TopFn S mg 18 a fd) (hv : vs.length < 2 ^ 20) (h0 : 0 < st.length) (hs : st.length < 2 ^ 20) : CallOk S b (d + 1) (.ref a) [.ints vs, .ints st] (.ints (numAfter vs st vs.length)) :=
  top_ok (params := ["script", "start"]) (rest := ["numbers", "k"]) W T (numbers_body W B hv h0 hs) rfl (by decide) (by decide) (vec2 fun _ _ fd => rfl) rfl rfl rfl
end
end Mine
open PySem PySem.Calls PyProof.Rows PySem.W
set_option Elab.async false
set_option autoImplicit false
set_option linter.unusedVariables false
namespace Mine
section
variable {S : Sys} {sc : Scope} {ns : List Str} {base : Heap} {env : Env} {s s' s0 : Shared} {ρ ρ' : Ro} {rt : Nat → Addr} {b : Bool} {d : Nat} {q : Md} {p p1 p2 p' : PV} {mg mb : Str → Option Value}

theorem Ev.cast {e : Expr} (h : Ev S sc ns b d q ρ e p) (h' : p = p') : Ev S sc ns b d q ρ e p' := h' ▸ h
theorem CallOk.to {fv : Value} {ps : List PV} (h : CallOk S b d fv ps p) (h' : p = p') : CallOk S b d fv ps p' := h' ▸ h
theorem Tr.cast {e : Expr} {t t' : Bool} (h : Tr S sc ns b d ρ e t) (h' : t = t') : Tr S sc ns b d ρ e t' := h' ▸ h

theorem o_pow2 {j : Nat} (hj : j ≤ 2 ^ 20) : Op2 S b d (binaryOp .Pow) (.int 2) (.int j) (.int (2 ^ j)) := by
  have h2 : Builtin.Int.intBits 2 = 2 := by decide
  exact (o_pow (by (first | lia | omega)) (by rw [h2]; (first | lia | omega))).to (by rw [Int.toNat_natCast])

theorem It.rangeN {e : Expr} {np pos : Pos} {n : Nat} {q1 : Md} (g : GName S sc "range" (.type "range")) (h : Ev S sc ns b d q1 ρ e (.int n)) (h2 : n < 2 ^ 62)
    (he : ∀ env, starEach [e] env = [(false, eval e env)] := by intro _; rfl) : It S sc ns b d ρ (.Call (.Name "range" np) [e] [] pos) ((List.range n).map fun (i : Nat) => PV.int i) := by
  have := It.range1 (np := np) (pos := pos) g h (by (first | lia | omega)) (by (first | lia | omega)) he
  rwa [Int.toNat_natCast] at this
end
end Mine
open PySem PySem.Calls PyProof.Rows PySem.W
set_option Elab.async false
set_option autoImplicit false
set_option linter.unusedVariables false
namespace Mine
section
variable {S : Sys} {sc : Scope} {ns : List Str} {base : Heap} {env : Env} {s s' s0 : Shared} {ρ ρ' : Ro} {rt : Nat → Addr} {b : Bool} {d : Nat} {q : Md} {p p1 p2 p' : PV} {mg mb : Str → Option Value}

noncomputable def redStep (l o : Int) : Int := min l (Builtin.bitXor l o)
noncomputable def redBy (basis : List Int) (x : Int) : Int := basis.foldl redStep x
noncomputable def rankStep (basis : List Int) (row : Int) : List Int := if redBy basis row != 0 then basis ++ [redBy basis row] else basis
noncomputable def basisOf (rows : List Int) : List Int := rows.foldl rankStep []
theorem basis_len (rows : List Int) : ∀ acc : List Int, (rows.foldl rankStep acc).length ≤ acc.length + rows.length := by
  induction rows with
  | nil => intro acc; simp
  | cons r rows ih =>
    intro acc
    have h1 := ih (rankStep acc r)
    have h2 : (rankStep acc r).length ≤ acc.length + 1 := by unfold rankStep; split <;> simp
    simp only [List.foldl_cons, List.length_cons]
    (first | lia | omega)

theorem take_snoc {α : Type} {l : List α} {j : Nat} (h : j < l.length) : l.take (j + 1) = l.take j ++ [l[j]] := by
  rw [List.take_succ, List.getElem?_eq_getElem h]; rfl

theorem items_ints {l : List Int} {j : Nat} {p : PV} (h : (l.map PV.int)[j]? = some p) : ∃ hj : j < l.length, p = .int l[j] := by
  rw [List.getElem?_map] at h
  by_cases hj : j < l.length
  · rw [List.getElem?_eq_getElem hj] at h; cases h; exact ⟨hj, rfl⟩
  · rw [List.getElem?_eq_none (by (first | lia | omega))] at h; cases h
end
end Mine
open PySem PySem.Calls PyProof.Rows PySem.W
set_option Elab.async false
set_option autoImplicit false
set_option linter.unusedVariables false
namespace Mine
section
variable {S : Sys} {sc : Scope} {ns : List Str} {base : Heap} {env : Env} {s s' s0 : Shared} {ρ ρ' : Ro} {rt : Nat → Addr} {b : Bool} {d : Nat} {q : Md} {p p1 p2 p' : PV} {mg mb : Str → Option Value}

structure Quo (S : Sys) (mg : Str → Option Value) : Prop where
  re1 : ∃ a, mg "_twin_re_1" = some (.ref a) ∧ IsPat S.hT a c1
  re2 : ∃ a, mg "_twin_re_2" = some (.ref a) ∧ IsPat S.hT a c2
  crlf : ∃ t, mg "CRLF" = some (.str (Mine.S [13, 10]) t)

theorem quote_body {e : List Nat} {ls : List (List Nat)} (W : S.Ok mg mb) (U : Quo S mg) (he : isEnd e) (h0 : ls ≠ []) (hok : ∀ l ∈ ls, okLine l) (hn : ls.length < 2 ^ 20) (h1 : (glue e ls).length < 2 ^ 20) (h2 : (glue [13, 10] ls).length < 2 ^ 20) (h3 : (glue [13, 10] (ls.map dotted)).length < 2 ^ 20) :
    Sx S (stScope (topAt 16)) ["data"] b d [some (.str (Mine.S (glue e ls)), .imm)] (stBody (topAt 16)) (fun o => o = .ret (.str (Mine.S (glue [13, 10] (ls.map dotted))))) := by
  obtain ⟨a1, m1, q1⟩ := U.re1
  obtain ⟨a2, m2, q2⟩ := U.re2
  obtain ⟨t, mc⟩ := U.crlf
  obtain ⟨ps1, s1, f1, l1⟩ := norm_ok he ls [] h0 hok
  obtain ⟨ps2, s2, f2, l2⟩ := dots_ok ls [] [] h0 hok (.inl rfl) (by simp only [List.nil_append]; (first | lia | omega)) (fun i h1 h2 => by simp at h2)
  refine Sx.cons (S1.ret (Ev.patSub (q1 := .R) (x := Mine.S (glue [13, 10] ls)) (ps := ps2) W (.glob W rfl m1) q1 (Evs.cons Ev.cstr (Evs.cons (Ev.patSub (q1 := .R) (x := Mine.S (glue e ls)) (ps := ps1) W (.glob W rfl m2) q2 (Evs.cons (Ev.gconst (.glob W rfl mc) (fun h => .str _ _)) (Evs.cons (Ev.var 0 rfl rfl rfl) Evs.nil)) (by decide +kernel) (by simp [sizeLine]; (first | lia | omega)) s1 (by simp only [sizeLine]; (first | lia | omega)) f1 (by (first | lia | omega))) Evs.nil)) (by decide +kernel) (by simp [sizeLine]; (first | lia | omega)) s2 (by simp only [sizeLine]; (first | lia | omega)) f2 (by simp only [List.nil_append]; (first | lia | omega))) ?_)
  rfl

theorem quote_ok {a : Addr} {fd : FuncData} {e : List Nat} {ls : List (List Nat)} (W : S.Ok mg mb) (U : Quo S mg) (T : TopFn S mg 16 a fd) (he : isEnd e) (h0 : ls ≠ []) (hok : ∀ l ∈ ls, okLine l) (hn : ls.length < 2 ^ 20) (h1 : (glue e ls).length < 2 ^ 20) (h2 : (glue [13, 10] ls).length < 2 ^ 20) (h3 : (glue [13, 10] (ls.map dotted)).length < 2 ^ 20) :
    CallOk S b (d + 1) (.ref a) [.str (Mine.S (glue e ls))] (.str (Mine.S (glue [13, 10] (ls.map dotted)))) :=
  top_ok (params := ["data"]) (rest := []) W T (quote_body W U he h0 hok hn h1 h2 h3) rfl (by decide) (by decide) (vec1 fun _ fd => rfl) rfl rfl rfl

structure Flg (S : Sys) (mg : Str → Option Value) (fl : List (Int × Str)) : Prop where
  ex : ∃ a kvs, mg "COMPILER_FLAG_NAMES" = some (.ref a) ∧ a ∉ S.TB ∧ (a == sysModules) = false ∧ S.hT.DictOf (intKind S.prog S.w) a kvs ∧ ∀ k x, (k, x) ∈ fl → ∃ t, valueAt kvs k = some (.str x t)

theorem Ev.flagGet {np apos pos : Pos} {e1 e2 : Expr} {fl : List (Int × Str)} {k : Int} {x : Str} {pd : PV} {q1 : Md} (W : S.Ok mg mb) (U : Flg S mg fl) (hsc : sc.names.lookup ("COMPILER_FLAG_NAMES" : Str) = some .globalImplicit) (hk : (k, x) ∈ fl)
    (ha : Evs S sc ns b d q1 ρ [e1, e2] [.int k, pd])
    (hfew : ∀ env, ((backTo pos (starEach [e1, e2] env)).all (fun x => !x.1) && (backToKw pos (keywordEach [] env)).all (fun x => x.1.isSome)
      && decide ([e1, e2].length + ([] : List Keyword).length + (if ([] : List Keyword).isEmpty then 0 else 1) < 30)) = true := by intro _; rfl)
    (hline : (apos.endLine == pos.line) = true := by rfl)
    (he : ∀ env, starEach [e1, e2] env = (false, eval e1 env) :: starEach [e2] env := by intro _; rfl)
    (hp : ∀ env, (backTo pos (starEach [e1, e2] env)).any (·.1) = false := by intro _; rfl) :
    Ev S sc ns b d q ρ (.Call (.Attribute (.Name "COMPILER_FLAG_NAMES" np) "get" apos) [e1, e2] [] pos) (.str x) := by
  intro A base env s rt Q R F hQ
  obtain ⟨a, kvs, hm, hTB, hsys, hD, hv⟩ := U.ex
  obtain ⟨t, hv⟩ := hv k x hk
  have at' : ∀ {h : Heap}, Gd S h → h.DictOf (intKind S.prog S.w) a kvs := fun G => hD.at fun o e => G.top _ o hTB e
  refine wpAny_Call_method (T := "dict") (id := "dict.get") rfl (hfew env) hline PySem.F.plainAttrs_dict PySem.F.slot_dict_get PySem.F.type_dict_get (GName.eval (.glob W hsc hm) F ?_ (by decide))
  have hb : backTo pos (starEach [e1, e2] env) = (false, eval e1 env) :: backTo pos (starEach [e2] env) := by rw [he env]; rfl
  have g4 := at' F.gd
  refine ⟨g4.typeIs, fun a e => by cases e; exact g4.mapOf.noDict _ rfl, callWith_builtin (hp env) ?_⟩
  have := ha A base env s rt pos (fun vs s' => wpAny (model S.prog S.w) A (PySem.call (.builtin "dict.get") ([.ref a] ++ vs) []) Q No s') R F fun vs s2 fp k2 r2 _ => ?_
  · rw [hb] at this ⊢
    exact evalArgs_plain this
  · obtain ⟨v1, v2, f1, f2, rfl, rfl, t1, t2⟩ := r2.two
    cases t1
    have g4' := at' k2.gd
    refine call_meetsIn PySem.F.slot_dict_get g4'.typeIs PySem.F.entry_dict_get (PySem.F.args_dict_get_3 _ _ _) (meets_dict_get_default (intKind S.prog S.w) _ (intKind_is _ _ k _) hsys v2) ⟨_, g4'.mapOf, ?_⟩
    rw [hv]
    exact hQ _ { s2 with toks := s2.toks + 1 } [] (k2.toks _) (.str _ _) MdOk.nil
end
end Mine
open PySem PySem.Calls PyProof.Rows PySem.W
set_option Elab.async false
set_option autoImplicit false
set_option linter.unusedVariables false
set_option maxRecDepth 20000
namespace Mine
section
variable {S : Sys} {sc : Scope} {ns : List Str} {base : Heap} {env : Env} {s s' s0 : Shared} {ρ ρ' : Ro} {rt : Nat → Addr} {b : Bool} {d : Nat} {q : Md} {p p1 p2 p' : PV} {mg mb : Str → Option Value}

theorem Sx.absurd {st : List Stmt} {Φ : Out → Prop} {x : Str} {k : Own} (i : Nat) (hn : ns[i]? = some x) (hρ : ρ[i]? = some (some (.bot, k))) : Sx S sc ns b d ρ st Φ := by
  intro A base env s rt Q R F hQ
  obtain ⟨v, fp, V⟩ := F.vars i x _ _ hn hρ
  have := V.rp
  cases this

noncomputable def flagName : Nat → Str
  | 0 => "OPTIMIZED"
  | 1 => "NEWLOCALS"
  | 2 => "VARARGS"
  | 3 => "VARKEYWORDS"
  | _ => "NESTED"
noncomputable def flagTab : List (Int × Str) := [(1, "OPTIMIZED"), (2, "NEWLOCALS"), (4, "VARARGS"), (8, "VARKEYWORDS"), (16, "NESTED")]
noncomputable def hiBits (x i : Nat) : Nat := x / 2 ^ i * 2 ^ i
noncomputable def namesTo (x i : Nat) : List Str := ((List.range i).filter (x.testBit ·)).map flagName
noncomputable def pf (x : Nat) : Str := if x = 0 then "0x0" else Txt.join ", " (namesTo x (x.log2 + 1))

theorem fl_and : ∀ x, x < 32 → ∀ j, j < 5 → (Builtin.bitAnd (hiBits x j) (1 * 2 ^ j) != 0) = x.testBit j := by decide +kernel
theorem fl_xor : ∀ x, x < 32 → ∀ j, j < 5 → x.testBit j = true → Builtin.bitXor (hiBits x j) (1 * 2 ^ j) = hiBits x (j + 1) := by decide +kernel
theorem fl_same : ∀ x, x < 32 → ∀ j, j < 5 → x.testBit j = false → hiBits x (j + 1) = hiBits x j := by decide +kernel
theorem fl_top : ∀ x, x < 32 → x ≠ 0 → x.log2 < 5 ∧ x.testBit x.log2 = true := by decide +kernel
theorem fl_end : ∀ x, x < 32 → x ≠ 0 → ∀ j, j < 5 → j ≤ x.log2 → ((hiBits x (j + 1) : Int) != 0) = decide (j ≠ x.log2) := by decide +kernel
theorem fl_tab : ∀ j, j < 5 → ((1 * 2 ^ j : Int), flagName j) ∈ flagTab := by decide +kernel
theorem fl_hex : ∀ j, j < 5 → (baseText "0x" 16 (1 * 2 ^ j : Int)).length ≤ sizeLine := by decide +kernel
theorem fl_join : ∀ x, x < 32 → (((namesTo x (x.log2 + 1)).map (·.length)).sum + (namesTo x (x.log2 + 1)).length * (", " : Str).length) ≤ 16777216 := by decide +kernel
theorem names_succ (x j : Nat) : namesTo x (j + 1) = if x.testBit j then namesTo x j ++ [flagName j] else namesTo x j := by
  unfold namesTo
  rw [List.range_succ, List.filter_append]
  cases h : x.testBit j <;> simp [h]

theorem shl1 {j : Nat} (hj : j < 64) : Op2 S b d (binaryOp .LShift) (.int 1) (.int j) (.int (1 * 2 ^ j)) := by
  have h1 : Builtin.Int.intBits 1 = 1 := by decide
  exact (o_shl (by (first | lia | omega)) (by rw [h1]; (first | lia | omega))).to (by rw [Int.toNat_natCast])

theorem flag_ret {x : Nat} {ys : List Str} {y : Str} {r2 r3 r0 : Option (PV × Own)} (hj : ((ys.map (·.length)).sum + ys.length * (", " : Str).length) ≤ 16777216) (hy : Txt.join ", " ys = y) :
    Sx S (stScope (topAt 11)) ["flags", "names", "i", "flag"] b d [r0, some (.strs ys, .mut), r2, r3] ((stBody (topAt 11)).drop 2) (fun o => o = .ret (.str y)) := by
  refine Sx.cons (S1.ret (p := .str y) (Ev.meth (q0 := .R) (q1 := .R) (p1 := .str ", ") PySem.F.plainAttrs_str PySem.F.slot_str_join PySem.F.type_str_join Ev.cstr (fun s v fp r => by (first | obtain ⟨_, rfl, rfl⟩ := r.inv | cases r); exact ⟨rfl, fun a h => by cases h⟩) (Evs.cons (Ev.var 1 rfl rfl rfl) Evs.nil) ((c_join hj).to (congrArg PV.str hy))) rfl)

theorem flags_body {x : Nat} (W : S.Ok mg mb) (B : Bn mg) (U : Flg S mg flagTab) (hx : x < 32) :
    Sx S (stScope (topAt 11)) ["flags", "names", "i", "flag"] b d [some (.int x, .imm), none, none, none] (stBody (topAt 11)) (fun o => o = .ret (.str (pf x))) := by
  refine Sx.cons (S1.assignOwn (p := .list []) 1 rfl (Ev.list Evs.nil) rfl ?_ (by decide) (by decide))
  by_cases hx0 : x = 0
  · subst hx0
    refine Sx.cons (S1.for 2 rfl (It.rangeN (n := 32) (q1 := .R) (.blt W rfl B.range rfl (by decide)) Ev.cint (by decide)) (fun _ => [some (.int 0, .imm), some (.list [], .mut), none, none]) Le.refl ?_ ?_ (by decide) (by decide))
    · intro j p hj
      obtain ⟨hj', rfl⟩ := range_get hj
      refine Sx.cons (S1.assign (p := .int (1 * 2 ^ j)) 3 rfl (Ev.op2 (q1 := .R) (q2 := .R) Ev.cint (Ev.var 2 rfl rfl rfl) (shl1 (by (first | lia | omega)))) ?_ (by decide) (by decide))
      refine Sx.cons (S1.if (c := false) (Tr.cast (Tr.int (q1 := .R) (Ev.op2 (q1 := .R) (q2 := .R) (Ev.var 0 rfl rfl rfl) (Ev.var 3 rfl rfl rfl) o_and)) ?_) (fun hc => by cases hc) (fun _ => ?_))
      · have : (1 * 2 ^ j : Int) = ((2 ^ j : Nat) : Int) := by rw [Int.one_mul, Int.natCast_pow]; rfl
        rw [this, show (0 : Int) = ((0 : Nat) : Int) from rfl, bitAnd_nat]
        simp
      · refine Sx.nil (Sx.nil ?_)
        exact (Le.same (Le.same (Le.drop (Le.drop Le.nil))))
    · refine Sx.cons (S1.append (p := .str "0x0") 1 rfl rfl (Ev.call (q1 := .R) (.blt W rfl B.hex rfl (by decide)) (.blt _) (Evs.cons (Ev.var 0 rfl rfl rfl) Evs.nil) ((c_hex (x := 0) (by decide +kernel)).to (congrArg PV.str (by decide +kernel)))) rfl (by decide) ?_)
      refine Sx.nil ?_
      exact flag_ret (x := 0) (ys := ["0x0"]) (by decide +kernel) (by decide +kernel)
  · obtain ⟨ht1, ht2⟩ := fl_top x hx hx0
    have epf : Txt.join ", " (namesTo x (x.log2 + 1)) = pf x := by unfold pf; rw [if_neg hx0]
    refine Sx.cons (S1.for 2 rfl (It.rangeN (n := 32) (q1 := .R) (.blt W rfl B.range rfl (by decide)) Ev.cint (by decide))
      (fun j => if j ≤ x.log2 then [some (.int (hiBits x j), .imm), some (.strs (namesTo x j), .mut), none, none] else [some (.bot, .imm), none, none, none]) ?_ ?_ ?_ (by decide) (by decide))
    · show Le (if 0 ≤ x.log2 then _ else _) _
      rw [if_pos (Nat.zero_le _)]
      have : hiBits x 0 = x := by unfold hiBits; simp
      rw [this]
      exact Le.refl
    · intro j p hj
      obtain ⟨hj', rfl⟩ := range_get hj
      show Sx S _ _ b d ((if j ≤ x.log2 then _ else _ : Ro).set 2 _) _ _
      by_cases hjl : j ≤ x.log2
      · rw [if_pos hjl]
        have hj5 : j < 5 := by (first | lia | omega)
        have hnl : (namesTo x j).length ≤ j := by unfold namesTo; rw [List.length_map]; exact Nat.le_trans (List.length_filter_le _ _) (by simp)
        refine Sx.cons (S1.assign (p := .int (1 * 2 ^ j)) 3 rfl (Ev.op2 (q1 := .R) (q2 := .R) Ev.cint (Ev.var 2 rfl rfl rfl) (shl1 (by (first | lia | omega)))) ?_ (by decide) (by decide))
        refine Sx.cons (S1.if (Tr.int (q1 := .R) (Ev.op2 (q1 := .R) (q2 := .R) (Ev.var 0 rfl rfl rfl) (Ev.var 3 rfl rfl rfl) o_and)) (fun hc => ?_) (fun hc => ?_))
        · rw [fl_and x hx j hj5] at hc
          have en : namesTo x (j + 1) = namesTo x j ++ [flagName j] := by rw [names_succ, if_pos hc]
          refine Sx.cons (S1.append (p := .str (flagName j)) 1 rfl rfl (Ev.flagGet (q1 := .R) W U rfl (fl_tab j hj5) (Evs.cons (Ev.var 3 rfl rfl rfl) (Evs.cons (Ev.call (q1 := .R) (.blt W rfl B.hex rfl (by decide)) (.blt _) (Evs.cons (Ev.var 3 rfl rfl rfl) Evs.nil) (c_hex (fl_hex j hj5))) Evs.nil))) (flat_atoms (by rw [List.all_append, atoms_strs]; rfl)) (by simp only [List.length_map, sizeLine]; (first | lia | omega)) ?_)
          refine Sx.cons (S1.aug (q1 := .R) (p := .int (hiBits x (j + 1))) 0 rfl rfl (Ev.var 3 rfl rfl rfl) (i_xor.to (fl_xor x hx j hj5 hc)) ?_ (by decide) (by decide))
          refine Sx.cons (S1.if (Tr.not (Tr.int (q1 := .R) (Ev.var 0 rfl rfl rfl))) (fun hc2 => ?_) (fun hc2 => ?_))
          · rw [fl_end x hx hx0 j hj5 hjl] at hc2
            have hjm : j = x.log2 := by simpa using hc2
            refine Sx.cons (S1.break ?_)
            have es : PV.list ((namesTo x j).map .str ++ [.str (flagName j)]) = .strs (namesTo x (x.log2 + 1)) := by rw [← hjm, en]; simp [PV.strs]
            have fin := flag_ret (S := S) (b := b) (d := d) (x := x) (r0 := some (.int (hiBits x (j + 1)), .imm)) (r2 := some (.int j, .imm)) (r3 := some (.int (1 * 2 ^ j), .imm)) (fl_join x hx) epf
            rw [← es] at fin
            exact fin
          · rw [fl_end x hx hx0 j hj5 hjl] at hc2
            have hjm : j ≠ x.log2 := by simpa using hc2
            refine Sx.nil (Sx.nil (Sx.nil ?_))
            show Le (if j + 1 ≤ x.log2 then _ else _) _
            rw [if_pos (by (first | lia | omega)), en]
            have es : PV.strs (namesTo x j ++ [flagName j]) = .list ((namesTo x j).map .str ++ [.str (flagName j)]) := by simp [PV.strs]
            rw [es]
            exact (Le.same (Le.same (Le.drop (Le.drop Le.nil))))
        · rw [fl_and x hx j hj5] at hc
          have hjm : j ≠ x.log2 := fun e => by rw [e, ht2] at hc; cases hc
          refine Sx.nil (Sx.nil ?_)
          show Le (if j + 1 ≤ x.log2 then _ else _) _
          rw [if_pos (by (first | lia | omega)), names_succ, if_neg (by rw [hc]; decide), fl_same x hx j hj5 hc]
          exact (Le.same (Le.same (Le.drop (Le.drop Le.nil))))
      · rw [if_neg hjl]
        exact Sx.absurd 0 rfl rfl
    · show Sx S _ _ b d (if _ ≤ x.log2 then _ else _ : Ro) _ _
      rw [if_neg (by simp; (first | lia | omega))]
      exact Sx.absurd 0 rfl rfl

theorem flags_ok {a : Addr} {fd : FuncData} {x : Nat} (W : S.Ok mg mb) (B : Bn mg) (U : Flg S mg flagTab) (T : TopFn S mg 11 a fd) (hx : x < 32) : CallOk S b (d + 1) (.ref a) [.int x] (.str (pf x)) :=
  top_ok (params := ["flags"]) (rest := ["names", "i", "flag"]) W T (flags_body W B U hx) rfl (by decide) (by decide) (vec1 fun _ fd => rfl) rfl rfl rfl
end
end Mine
open PySem PySem.Calls PyProof.Rows PySem.W
set_option Elab.async false
set_option autoImplicit false
set_option linter.unusedVariables false
set_option maxRecDepth 20000
namespace Mine

noncomputable def qStep (n y : Nat) (st : List Nat × Nat) (dg : Nat) : List Nat × Nat := (st.1 ++ [(st.2 * 2 ^ n + dg) / y], (st.2 * 2 ^ n + dg) % y)
noncomputable def qRun (n y : Nat) (ds : List Nat) : List Nat × Nat := ds.foldl (qStep n y) ([], 0)
noncomputable def nsum (n : Nat) : List Nat → Nat
  | [] => 0
  | d :: r => d + 2 ^ n * nsum n r
theorem nsum_dsum (n : Nat) : ∀ l : List Nat, ((nsum n l : Nat) : Int) = dsum n (l.map Int.ofNat)
  | [] => rfl
  | d :: r => by
    rw [nsum, List.map_cons, dsum, ← nsum_dsum n r]
    push_cast
    rfl
theorem qRun_ok (n y : Nat) (hy : 0 < y) : ∀ ds : List Nat, nsum n (qRun n y ds.reverse).1.reverse = nsum n ds / y ∧ (qRun n y ds.reverse).2 = nsum n ds % y
  | [] => by simp [qRun, nsum]
  | d :: ds => by
    obtain ⟨h1, h2⟩ := qRun_ok n y hy ds
    have e : qRun n y (d :: ds).reverse = qStep n y (qRun n y ds.reverse) d := by rw [List.reverse_cons]; simp [qRun, List.foldl_append]
    rw [e]
    unfold qStep
    simp only [List.reverse_append, List.reverse_cons, List.reverse_nil, List.nil_append, List.cons_append, nsum]
    rw [h1, h2]
    have key : d + 2 ^ n * nsum n ds = y * (2 ^ n * (nsum n ds / y)) + (nsum n ds % y * 2 ^ n + d) := by
      have := Nat.div_add_mod (nsum n ds) y
      have e2 : 2 ^ n * nsum n ds = 2 ^ n * (y * (nsum n ds / y) + nsum n ds % y) := by rw [this]
      rw [e2, Nat.mul_add, ← Nat.mul_assoc, Nat.mul_comm (2 ^ n) y, Nat.mul_assoc, Nat.mul_comm (2 ^ n) (nsum n ds % y)]
      (first | lia | omega)
    rw [key]
    constructor
    · rw [Nat.mul_add_div hy]; (first | lia | omega)
    · rw [Nat.mul_add_mod]

section
variable {S : Sys} {sc : Scope} {ns : List Str} {base : Heap} {env : Env} {s s' s0 : Shared} {ρ ρ' : Ro} {rt : Nat → Addr} {b : Bool} {d : Nat} {q : Md} {p p1 p2 p' : PV} {mg mb : Str → Option Value}

theorem div2_body {x y n : Nat} {t : Tok} (W : S.Ok mg mb) (B : Bn mg) (hlim : mg "_DIV_LIMIT" = some (.int 4000 t)) (hy : 0 < y) (hyl : y < 2 ^ 4000) (hx : nbits x ≤ n + 4000) :
    Sx S (stScope (topAt 3)) ["a", "b", "n"] b d [some (.int x, .imm), some (.int y, .imm), some (.int n, .imm)] (stBody (topAt 3)) (fun o => o = .ret (.tup [.int ((x / y : Nat) : Int), .int ((x % y : Nat) : Int)])) := by
  have hl2 : (y : Int).natAbs.log2 < 9000 := by
    rw [Int.natAbs_natCast]
    exact Nat.lt_trans ((Nat.log2_lt (by (first | lia | omega))).mpr hyl) (by decide)
  refine Sx.cons (S1.if (c := true) (Tr.cast (Tr.cmp (q1 := .R) (q2 := .R) (Ev.op2 (q1 := .R) (q2 := .R) (Ev.meth0 (q0 := .R) (p1 := .int x) PySem.F.plainAttrs_int PySem.F.slot_int_bit_length PySem.F.type_int_bit_length (Ev.var 0 rfl rfl rfl) (fun s v fp r => by (first | obtain ⟨_, rfl, rfl⟩ := r.inv | cases r); exact ⟨rfl, fun a h => by cases h⟩) c_bits) (Ev.var 2 rfl rfl rfl) o_sub) (Ev.gconst (.glob W rfl hlim) (fun h => .int _ _)) o_le) ?_) (fun _ => ?_) (fun hc => by cases hc))
  · have h1 : ((Builtin.Int.intBits (x : Int) : Nat) : Int) - n ≤ 4000 := by unfold nbits at hx; (first | lia | omega)
    exact decide_eq_true h1
  · refine Sx.cons (S1.ret (Ev.call (q1 := .R) (.blt W rfl B.divmod rfl (by decide)) (.blt _) (Evs.cons (Ev.var 0 rfl rfl rfl) (Evs.cons (Ev.var 1 rfl rfl rfl) Evs.nil)) ((c_divmod (by (first | lia | omega)) hl2).to ?_)) rfl)
    rw [fmod_nat, Int.fdiv_eq_ediv_of_nonneg _ (by (first | lia | omega))]
    rfl
theorem div2_ok {a : Addr} {fd : FuncData} {x y n : Nat} {t : Tok} (W : S.Ok mg mb) (B : Bn mg) (T : TopFn S mg 3 a fd) (hlim : mg "_DIV_LIMIT" = some (.int 4000 t)) (hy : 0 < y) (hyl : y < 2 ^ 4000) (hx : nbits x ≤ n + 4000) :
    CallOk S b (d + 1) (.ref a) [.int x, .int y, .int n] (.tup [.int ((x / y : Nat) : Int), .int ((x % y : Nat) : Int)]) :=
  top_ok (params := ["a", "b", "n"]) (rest := []) W T (div2_body W B hlim hy hyl hx) rfl (by decide) (by decide) (vec3 fun _ _ _ fd => rfl) rfl rfl rfl
end
end Mine
open PySem PySem.Calls PyProof.Rows PySem.W
set_option Elab.async false
set_option autoImplicit false
set_option linter.unusedVariables false
set_option maxRecDepth 20000
namespace Mine

noncomputable def digsN (n : Nat) : Nat → Nat → List Nat
  | 0, _ => []
  | 1, x => [x]
  | k + 2, x => x % 2 ^ n :: digsN n (k + 1) (x / 2 ^ n)
theorem digs_map (n : Nat) : ∀ k x, digs n k x = (digsN n k x).map Int.ofNat
  | 0, _ => rfl
  | 1, _ => rfl
  | k + 2, x => by rw [digs, digsN, List.map_cons, digs_map n (k + 1)]; rfl
theorem nsum_digs (n : Nat) : ∀ k x, nsum n (digsN n (k + 1) x) = x
  | 0, x => by simp [digsN, nsum]
  | k + 1, x => by
    rw [digsN, nsum, nsum_digs n k]
    exact Nat.mod_add_div x (2 ^ n)
theorem digsN_lt (n : Nat) : ∀ k x, x < 2 ^ (n * (k + 1)) → ∀ d ∈ digsN n (k + 1) x, d < 2 ^ n
  | 0, x, hx, d, hd => by
    simp [digsN] at hd
    subst hd
    simpa using hx
  | k + 1, x, hx, d, hd => by
    rw [digsN] at hd
    rcases List.mem_cons.mp hd with rfl | hd
    · exact Nat.mod_lt _ (Nat.two_pow_pos n)
    · refine digsN_lt n k _ ?_ d hd
      rw [Nat.div_lt_iff_lt_mul (Nat.two_pow_pos n), ← Nat.pow_add]
      have : n * (k + 1) + n = n * (k + 1 + 1) := by rw [Nat.mul_add n (k + 1) 1]; (first | lia | omega)
      rw [this]; exact hx
theorem nsum_lt (n : Nat) : ∀ l : List Nat, (∀ d ∈ l, d < 2 ^ n) → nsum n l < 2 ^ (n * l.length)
  | [], _ => by simp [nsum]
  | d :: l, h => by
    have h1 := h d (.head _)
    have h2 := nsum_lt n l fun x hx => h x (.tail _ hx)
    rw [nsum, List.length_cons, show n * (l.length + 1) = n + n * l.length by rw [Nat.mul_add]; (first | lia | omega), Nat.pow_add]
    have : 2 ^ n * (nsum n l + 1) ≤ 2 ^ n * 2 ^ (n * l.length) := Nat.mul_le_mul_left _ h2
    rw [Nat.mul_add, Nat.mul_one] at this
    (first | lia | omega)

theorem lt_bits (x : Nat) : x < 2 ^ nbits x := by
  unfold nbits Builtin.Int.intBits
  by_cases h : x = 0
  · subst h; decide
  · rw [if_neg (by simpa using h), Int.natAbs_natCast]
    exact Nat.lt_log2_self
theorem len_ge {n x : Nat} (hn : 0 < n) : nbits x ≤ n * i2dLen n x := by
  unfold i2dLen
  have := Nat.div_add_mod (nbits x + n - 1) n
  have := Nat.mod_lt (nbits x + n - 1) hn
  (first | lia | omega)

theorem fit_nat {l : List Nat} {n : Nat} (h : ∀ d ∈ l, d < 2 ^ n) (hl : l.length < 2 ^ 12) (hn : n < 2 ^ 13) : DFit (l.map Int.ofNat) n := by
  refine ⟨by rw [List.length_map]; (first | lia | omega), by (first | lia | omega), fun a r k h1 h2 h3 => ?_⟩
  rw [List.length_map] at h2 h3
  have e : sub (l.map Int.ofNat) a r = ((l.drop a).take (r - a)).map Int.ofNat := by unfold sub; rw [List.map_take, List.map_drop]
  rw [e, ← nsum_dsum]
  have hlt := nsum_lt n ((l.drop a).take (r - a)) fun d hd => h d (List.mem_of_mem_drop (List.mem_of_mem_take hd))
  have hb := bits_lt hlt
  have hlen : ((l.drop a).take (r - a)).length ≤ l.length := by simp; (first | lia | omega)
  have h5 : n * ((l.drop a).take (r - a)).length ≤ 2 ^ 13 * 2 ^ 12 := Nat.mul_le_mul (by (first | lia | omega)) (by (first | lia | omega))
  have h6 : k * n ≤ 2 ^ 12 * 2 ^ 13 := Nat.mul_le_mul (by (first | lia | omega)) (by (first | lia | omega))
  have h7 : ((k : Int) * n) = ((k * n : Nat) : Int) := by rw [Int.natCast_mul]
  rw [h7]
  (first | lia | omega)

theorem qRun_lt (n y : Nat) (hy : 0 < y) : ∀ (ds : List Nat) (st : List Nat × Nat), (∀ d ∈ ds, d < 2 ^ n) → st.2 < y → (∀ d ∈ st.1, d < 2 ^ n) → (ds.foldl (qStep n y) st).2 < y ∧ (∀ d ∈ (ds.foldl (qStep n y) st).1, d < 2 ^ n) ∧ (ds.foldl (qStep n y) st).1.length = st.1.length + ds.length
  | [], st, _, h1, h2 => ⟨h1, h2, by simp⟩
  | d :: ds, st, hd, h1, h2 => by
    have hq : (st.2 * 2 ^ n + d) / y < 2 ^ n := by
      rw [Nat.div_lt_iff_lt_mul hy]
      have : (st.2 + 1) * 2 ^ n ≤ y * 2 ^ n := Nat.mul_le_mul_right _ h1
      have := hd d (.head _)
      rw [Nat.add_mul, Nat.one_mul] at *
      rw [Nat.mul_comm (2 ^ n) y]
      (first | lia | omega)
    obtain ⟨a, c, e⟩ := qRun_lt n y hy ds (qStep n y st d) (fun x hx => hd x (.tail _ hx)) (Nat.mod_lt _ hy) (fun x hx => by
      unfold qStep at hx
      rcases List.mem_append.mp hx with hx | hx
      · exact h2 x hx
      · simp at hx; rw [hx]; exact hq)
    refine ⟨a, c, e.trans ?_⟩
    unfold qStep; simp; (first | lia | omega)
end Mine
open PySem PySem.Calls PyProof.Rows PySem.W
set_option Elab.async false
set_option autoImplicit false
set_option linter.unusedVariables false
set_option maxRecDepth 20000
namespace Mine
section
variable {S : Sys} {sc : Scope} {ns : List Str} {base : Heap} {env : Env} {s s' s0 : Shared} {ρ ρ' : Ro} {rt : Nat → Addr} {b : Bool} {d : Nat} {q : Md} {p p1 p2 p' : PV} {mg mb : Str → Option Value}

theorem TopFn.callee {k : Nat} {a : Addr} {fd : FuncData} (W : S.Ok mg mb) (T : TopFn S mg k a fd) : Callee S (.ref a) := by
  obtain ⟨o, ho, hd⟩ := T.ob
  refine .fn ho (fun hm => ?_) hd
  obtain ⟨x, e⟩ := tb_data W.gdT.tab hm
  rw [ho] at e; cases e; cases hd

theorem dpos_body {x y : Nat} {aI aD aV : Addr} {fI fD fV : FuncData} (W : S.Ok mg mb) (B : Bn mg) (TI : TopFn S mg 5 aI fI) (TD : TopFn S mg 6 aD fD) (TV : TopFn S mg 3 aV fV) (mI : mg "_int2digits" = some (.ref aI)) (mD : mg "_digits2int" = some (.ref aD)) (mV : mg "_div2n1n" = some (.ref aV))
    (hy : 0 < y) (hyl : nbits y ≤ 4000) (hlen : i2dLen (nbits y) x < 2 ^ 12)
    (hI : CallOk S false d (.ref aI) [.int x, .int (nbits y)] (.ints (i2d (nbits y) x)))
    (hD : ∀ l : List Nat, (∀ z ∈ l, z < 2 ^ nbits y) → l.length = i2dLen (nbits y) x → CallOk S false d (.ref aD) [.ints (l.map Int.ofNat), .int (nbits y)] (.int (dsum (nbits y) (l.map Int.ofNat))))
    (hV : ∀ c, nbits c ≤ nbits y + 4000 → CallOk S false d (.ref aV) [.int c, .int y, .int (nbits y)] (.tup [.int ((c / y : Nat) : Int), .int ((c % y : Nat) : Int)])) :
    Sx S (stScope (topAt 7)) ["a", "b", "n", "a_digits", "r", "q_digits", "a_digit", "q_digit", "q"] false d [some (.int x, .imm), some (.int y, .imm), none, none, none, none, none, none, none] (stBody (topAt 7)) (fun o => o = .ret (.tup [.int ((x / y : Nat) : Int), .int ((x % y : Nat) : Int)])) := by
  obtain ⟨n, hn⟩ : ∃ n, n = nbits y := ⟨_, rfl⟩
  rw [← hn] at hyl hlen hI hD hV
  have hyn : y < 2 ^ n := hn ▸ lt_bits y
  have hn0 : 0 < n := by
    rcases Nat.eq_zero_or_pos n with h | h
    · rw [h] at hyn; (first | lia | omega)
    · exact h
  obtain ⟨ds, hds⟩ : ∃ ds, ds = digsN n (i2dLen n x) x := ⟨_, rfl⟩
  have ei : i2d n x = ds.map Int.ofNat := by unfold i2d; rw [digs_map, hds]
  have hdl : ds.length = i2dLen n x := by rw [← List.length_map (f := Int.ofNat), ← ei]; exact digs_len n _ _
  have hdlt : ∀ z ∈ ds, z < 2 ^ n := fun z hz => by
    rw [hds] at hz
    cases hk : i2dLen n x with
    | zero => rw [hk] at hz; cases hz
    | succ k =>
      rw [hk] at hz
      refine digsN_lt n k x ?_ z hz
      rw [← hk]
      exact Nat.lt_of_lt_of_le (lt_bits x) (Nat.pow_le_pow_right (by decide) (len_ge hn0))
  have hdsum : nsum n ds = x := by
    rw [hds]
    cases hk : i2dLen n x with
    | zero =>
      have h1 := len_ge (x := x) hn0
      rw [hk, Nat.mul_zero] at h1
      have h2 := lt_bits x
      rw [Nat.le_zero.mp h1] at h2
      simp [digsN, nsum]; (first | lia | omega)
    | succ k => exact nsum_digs n k x
  rw [ei] at hI
  refine Sx.cons (S1.assign (p := .int n) 2 rfl (Ev.meth0 (q0 := .R) (p1 := .int y) PySem.F.plainAttrs_int PySem.F.slot_int_bit_length PySem.F.type_int_bit_length (Ev.var 1 rfl rfl rfl) (fun s v fp r => by (first | obtain ⟨_, rfl, rfl⟩ := r.inv | cases r); exact ⟨rfl, fun a h => by cases h⟩) (c_bits.to (by rw [hn]; rfl))) ?_ (by decide) (by decide))
  refine Sx.cons (S1.assign (p := .ints (ds.map Int.ofNat)) 3 rfl (Ev.call (q1 := .R) (.glob W rfl mI) (TI.callee W) (Evs.cons (Ev.var 0 rfl rfl rfl) (Evs.cons (Ev.var 2 rfl rfl rfl) Evs.nil)) hI) ?_ (by decide) (by decide))
  refine Sx.cons (S1.assign (p := .int 0) 4 rfl Ev.cint ?_ (by decide) (by decide))
  refine Sx.cons (S1.assignOwn (p := .list []) 5 rfl (Ev.list Evs.nil) rfl ?_ (by decide) (by decide))
  have qr := fun j => qRun_lt n y hy (ds.reverse.take j) ([], 0) (fun z hz => hdlt z (by simpa using List.mem_of_mem_take hz)) hy (fun z hz => by cases hz)
  refine Sx.cons (S1.for 6 rfl (It.reversed (.blt W rfl B.reversed rfl (by decide)) (Ev.var 3 rfl rfl rfl) (atoms_ints _))
    (fun j => [some (.int x, .imm), some (.int y, .imm), some (.int n, .imm), some (.ints (ds.map Int.ofNat), .imm), some (.int ((qRun n y (ds.reverse.take j)).2 : Nat), .imm), some (.ints ((qRun n y (ds.reverse.take j)).1.map Int.ofNat), .mut), none, none, none]) Le.refl ?_ ?_ (by decide) (by decide))
  · intro j p hj
    have hj1 : (((ds.reverse).map Int.ofNat).map PV.int)[j]? = some p := by rw [← hj]; simp [List.map_reverse]
    obtain ⟨hj2, rfl⟩ := items_ints hj1
    have hj3 : j < ds.reverse.length := by simpa using hj2
    obtain ⟨dg, hdg⟩ : ∃ dg, dg = ds.reverse[j] := ⟨_, rfl⟩
    have e1 : ((ds.reverse).map Int.ofNat)[j] = (dg : Int) := by rw [hdg]; simp
    rw [e1]
    obtain ⟨st, hst⟩ : ∃ st, st = qRun n y (ds.reverse.take j) := ⟨_, rfl⟩
    have hnext : qRun n y (ds.reverse.take (j + 1)) = qStep n y st dg := by rw [take_snoc hj3, hst, hdg]; simp only [qRun, List.foldl_append, List.foldl_cons, List.foldl_nil]
    obtain ⟨q1, q2, q3⟩ := qr j
    have q1' : st.2 < y := by rw [hst]; exact q1
    have q3' : st.1.length ≤ j := by rw [hst]; have := q3; simp at this; unfold qRun; (first | lia | omega)
    have hdg2 : dg < 2 ^ n := hdlt dg (by rw [hdg]; simpa using List.getElem_mem hj3)
    simp only [← hst]
    have hcur : st.2 * 2 ^ n + dg < 2 ^ (n + n) := by
      rw [Nat.pow_add]
      have : (st.2 + 1) * 2 ^ n ≤ 2 ^ n * 2 ^ n := Nat.mul_le_mul_right _ (by (first | lia | omega))
      rw [Nat.add_mul, Nat.one_mul] at this
      (first | lia | omega)
    have hbc : nbits (st.2 * 2 ^ n + dg) ≤ n + 4000 := by have := bits_lt hcur; unfold nbits; (first | lia | omega)
    have ec : ((st.2 : Nat) : Int) * 2 ^ ((n : Nat) : Int).toNat + (dg : Int) = ((st.2 * 2 ^ n + dg : Nat) : Int) := by rw [Int.toNat_natCast]; push_cast; rfl
    have hbr : (Builtin.Int.intBits ((st.2 : Nat) : Int) : Int) + (n : Int) ≤ 2 ^ 27 := by
      have := bits_lt (Nat.lt_trans q1' hyn); (first | lia | omega)
    refine Sx.cons (S1.unpack2 (q1 := .R) (p1 := .int (((st.2 * 2 ^ n + dg) / y : Nat) : Int)) (p2 := .int (((st.2 * 2 ^ n + dg) % y : Nat) : Int)) 7 4 rfl rfl (Ev.call (q1 := .R) (.glob W rfl mV) (TV.callee W) (Evs.cons (Ev.op2 (q1 := .R) (q2 := .R) (Ev.op2 (q1 := .R) (q2 := .R) (Ev.var 4 rfl rfl rfl) (Ev.var 2 rfl rfl rfl) (o_shl (by (first | lia | omega)) hbr)) (Ev.var 6 rfl rfl rfl) (o_add.to ec)) (Evs.cons (Ev.var 1 rfl rfl rfl) (Evs.cons (Ev.var 2 rfl rfl rfl) Evs.nil))) (hV _ hbc)) rfl rfl ?_ (by decide) (by decide) (by decide))
    refine Sx.cons (S1.append (p := .int (((st.2 * 2 ^ n + dg) / y : Nat) : Int)) 5 rfl rfl (Ev.var 7 rfl rfl rfl) (flat_atoms (by rw [List.all_append, atoms_ints]; rfl)) (by simp only [List.length_map, sizeLine]; have := hdl; simp at hj3; (first | lia | omega)) ?_)
    refine Sx.nil ?_
    show Le [some (.int x, .imm), some (.int y, .imm), some (.int n, .imm), some (.ints (ds.map Int.ofNat), .imm), some (.int ((qRun n y (ds.reverse.take (j + 1))).2 : Nat), .imm), some (.ints ((qRun n y (ds.reverse.take (j + 1))).1.map Int.ofNat), .mut), none, none, none] _
    rw [hnext]
    have e3 : PV.ints ((qStep n y st dg).1.map Int.ofNat) = .list ((st.1.map Int.ofNat).map .int ++ [.int (((st.2 * 2 ^ n + dg) / y : Nat) : Int)]) := by unfold qStep; simp [PV.ints]
    rw [e3]
    exact (Le.same (Le.same (Le.same (Le.same (Le.same (Le.same (Le.drop (Le.drop (Le.drop Le.nil)))))))))
  · refine Sx.nil ?_
    have el : ((ds.map Int.ofNat).map PV.int).reverse.length = ds.reverse.length := by simp
    obtain ⟨st, hst⟩ : ∃ st, st = qRun n y ds.reverse := ⟨_, rfl⟩
    show Sx S _ _ false d [some (.int x, .imm), some (.int y, .imm), some (.int n, .imm), some (.ints (ds.map Int.ofNat), .imm), some (.int ((qRun n y (ds.reverse.take ((ds.map Int.ofNat).map PV.int).reverse.length)).2 : Nat), .imm), some (.ints ((qRun n y (ds.reverse.take ((ds.map Int.ofNat).map PV.int).reverse.length)).1.map Int.ofNat), .mut), none, none, none] _ _
    rw [el, List.take_length, ← hst]
    obtain ⟨r1, r2⟩ := qRun_ok n y hy ds
    rw [← hst, hdsum] at r1 r2
    obtain ⟨q1, q2, q3⟩ := qRun_lt n y hy ds.reverse ([], 0) (fun z hz => hdlt z (by simpa using hz)) hy (fun z hz => by cases hz)
    have hst' : ds.reverse.foldl (qStep n y) ([], 0) = st := hst.symm
    rw [hst'] at q1 q2 q3
    have q3' : st.1.length = i2dLen n x := by simp at q3; (first | lia | omega)
    refine Sx.cons (S1.reverse 5 rfl rfl (atoms_ints _) (by simp only [List.length_map, sizeLine]; (first | lia | omega)) ?_)
    have er : PV.list ((st.1.map Int.ofNat).map PV.int).reverse = .ints (st.1.reverse.map Int.ofNat) := by simp [PV.ints, List.map_reverse]
    rw [er]
    refine Sx.cons (S1.assign (p := .int ((x / y : Nat) : Int)) 8 rfl (Ev.call (q1 := .R) (.glob W rfl mD) (TD.callee W) (Evs.cons (Ev.var 5 rfl rfl rfl) (Evs.cons (Ev.var 2 rfl rfl rfl) Evs.nil)) ((hD st.1.reverse (fun z hz => q2 z (by simpa using hz)) (by simpa using q3')).to (by rw [← nsum_dsum, r1]))) ?_ (by decide) (by decide))
    refine Sx.cons (S1.ret (Ev.tup (Evs.cons (Ev.var 8 rfl rfl rfl) (Evs.cons (Ev.var 4 rfl rfl rfl) Evs.nil)) (by show 2 ≤ sizeLine; decide)) ?_)
    show Out.ret _ = Out.ret _
    rw [r2]
end
end Mine
open PySem PySem.Calls PyProof.Rows PySem.W
set_option Elab.async false
set_option autoImplicit false
set_option linter.unusedVariables false
set_option maxRecDepth 20000
namespace Mine
section
variable {S : Sys} {sc : Scope} {ns : List Str} {base : Heap} {env : Env} {s s' s0 : Shared} {ρ ρ' : Ro} {rt : Nat → Addr} {b : Bool} {d : Nat} {q : Md} {p p1 p2 p' : PV} {mg mb : Str → Option Value}

theorem dpos_ok {a : Addr} {fd : FuncData} {x y : Nat} {aI aD aV : Addr} {fI fD fV : FuncData} (W : S.Ok mg mb) (B : Bn mg) (T : TopFn S mg 7 a fd) (TI : TopFn S mg 5 aI fI) (TD : TopFn S mg 6 aD fD) (TV : TopFn S mg 3 aV fV) (mI : mg "_int2digits" = some (.ref aI)) (mD : mg "_digits2int" = some (.ref aD)) (mV : mg "_div2n1n" = some (.ref aV))
    (hy : 0 < y) (hyl : nbits y ≤ 4000) (hlen : i2dLen (nbits y) x < 2 ^ 12)
    (hI : CallOk S false d (.ref aI) [.int x, .int (nbits y)] (.ints (i2d (nbits y) x)))
    (hD : ∀ l : List Nat, (∀ z ∈ l, z < 2 ^ nbits y) → l.length = i2dLen (nbits y) x → CallOk S false d (.ref aD) [.ints (l.map Int.ofNat), .int (nbits y)] (.int (dsum (nbits y) (l.map Int.ofNat))))
    (hV : ∀ c, nbits c ≤ nbits y + 4000 → CallOk S false d (.ref aV) [.int c, .int y, .int (nbits y)] (.tup [.int ((c / y : Nat) : Int), .int ((c % y : Nat) : Int)])) :
    CallOk S false (d + 1) (.ref a) [.int x, .int y] (.tup [.int ((x / y : Nat) : Int), .int ((x % y : Nat) : Int)]) :=
  top_ok (params := ["a", "b"]) (rest := ["n", "a_digits", "r", "q_digits", "a_digit", "q_digit", "q"]) W T (dpos_body W B TI TD TV mI mD mV hy hyl hlen hI hD hV) rfl (by decide) (by decide) (vec2 fun _ _ fd => rfl) rfl rfl rfl

theorem idiv_body {x y : Nat} {aP : Addr} {fP : FuncData} (W : S.Ok mg mb) (TP : TopFn S mg 7 aP fP) (mP : mg "_divmod_pos" = some (.ref aP)) (hy : 0 < y)
    (hP : CallOk S false d (.ref aP) [.int x, .int y] (.tup [.int ((x / y : Nat) : Int), .int ((x % y : Nat) : Int)])) :
    Sx S (stScope (topAt 8)) ["a", "b", "q", "r"] false d [some (.int x, .imm), some (.int y, .imm), none, none] (stBody (topAt 8)) (fun o => o = .ret (.tup [.int ((x / y : Nat) : Int), .int ((x % y : Nat) : Int)])) := by
  refine Sx.cons (S1.if (c := false) (Tr.cast (Tr.cmp (q1 := .R) (q2 := .R) (Ev.var 1 rfl rfl rfl) Ev.cint o_eq) ?_) (fun hc => by cases hc) (fun _ => ?_))
  · exact beq_eq_false_iff_ne.mpr (by (first | lia | omega))
  refine Sx.cons (S1.if (c := false) (Tr.cast (Tr.cmp (q1 := .R) (q2 := .R) (Ev.var 1 rfl rfl rfl) Ev.cint o_lt) ?_) (fun hc => by cases hc) (fun _ => ?_))
  · exact decide_eq_false (by (first | lia | omega))
  refine Sx.cons (S1.if (c := false) (Tr.cast (Tr.cmp (q1 := .R) (q2 := .R) (Ev.var 0 rfl rfl rfl) Ev.cint o_lt) ?_) (fun hc => by cases hc) (fun _ => ?_))
  · exact decide_eq_false (by (first | lia | omega))
  refine Sx.cons (S1.ret (Ev.call (q1 := .R) (.glob W rfl mP) (TP.callee W) (Evs.cons (Ev.var 0 rfl rfl rfl) (Evs.cons (Ev.var 1 rfl rfl rfl) Evs.nil)) hP) rfl)

theorem idiv_ok {a : Addr} {fd : FuncData} {x y : Nat} {aP : Addr} {fP : FuncData} (W : S.Ok mg mb) (T : TopFn S mg 8 a fd) (TP : TopFn S mg 7 aP fP) (mP : mg "_divmod_pos" = some (.ref aP)) (hy : 0 < y)
    (hP : CallOk S false d (.ref aP) [.int x, .int y] (.tup [.int ((x / y : Nat) : Int), .int ((x % y : Nat) : Int)])) :
    CallOk S false (d + 1) (.ref a) [.int x, .int y] (.tup [.int ((x / y : Nat) : Int), .int ((x % y : Nat) : Int)]) :=
  top_ok (params := ["a", "b"]) (rest := ["q", "r"]) W T (idiv_body W TP mP hy hP) rfl (by decide) (by decide) (vec2 fun _ _ fd => rfl) rfl rfl rfl

end
end Mine
open PySem PySem.Calls PyProof.Rows PySem.W
set_option Elab.async false
set_option autoImplicit false
set_option linter.unusedVariables false
namespace Mine
section
variable {S : Sys} {sc : Scope} {ns : List Str} {base : Heap} {env : Env} {s s' s0 : Shared} {ρ ρ' : Ro} {rt : Nat → Addr} {b : Bool} {d : Nat} {q : Md} {p p1 p2 p' : PV} {mg mb : Str → Option Value}


noncomputable def tieBit (nums : List Int) (i j : Nat) : Bool := Builtin.bitAnd ((nums.getD (max i j) 0).fdiv (2 ^ min i j)) 1 != 0
noncomputable def tieRow (nums : List Int) (size i : Nat) : Int := (((List.range size).filter (tieBit nums i)).map fun j => (2 : Int) ^ j).sum
noncomputable def tiesOf (nums : List Int) (size : Nat) : List Int := (List.range size).map (tieRow nums size)

theorem ties_body {nums : List Int} {size : Nat} (W : S.Ok mg mb) (B : Bn mg) (hs : size ≤ nums.length) (hs2 : size < 2 ^ 20) :
    Sx S (stScope (topAt 19)) ["numbers", "size", "ties", "i"] b d [some (.ints nums, .imm), some (.int size, .imm), none, none] (stBody (topAt 19)) (fun o => o = .ret (.ints (tiesOf nums size))) := by
  refine Sx.cons (S1.assignOwn (p := .list []) 2 rfl (Ev.list Evs.nil) rfl ?_ (by decide) (by decide))
  refine Sx.cons (S1.for 3 rfl (It.range1 (q1 := .R) (.blt W rfl B.range rfl (by decide)) (Ev.var 1 rfl rfl rfl) (by (first | lia | omega)) (by (first | lia | omega)))
    (fun j => [some (.ints nums, .imm), some (.int size, .imm), some (.ints ((List.range j).map (tieRow nums size)), .mut), none]) Le.refl ?_ ?_ (by decide) (by decide))
  · intro i p hi
    obtain ⟨hi', rfl⟩ := range_get hi
    clear hi
    rw [Int.toNat_natCast] at hi'
    refine Sx.cons (S1.append (p := .int (tieRow nums size i)) 2 rfl rfl (Ev.call (ps := [.ints (((List.range size).filter (tieBit nums i)).map fun j => (2 : Int) ^ j)]) (q1 := .R) (.blt W rfl B.sum rfl (by decide)) (.blt _) (Evs.cons ?_ Evs.nil) c_sum)
      (flat_atoms (by rw [List.all_append, atoms_ints]; rfl)) (by simp only [List.length_map, List.length_range, sizeLine]; (first | lia | omega)) ?_)
    · have e : PV.list (((List.range size).filter (tieBit nums i)).map fun j => PV.int (2 ^ j)) = .ints (((List.range size).filter (tieBit nums i)).map fun j => (2 : Int) ^ j) := by simp only [PV.ints, List.map_map]; rfl
      rw [← e]
      refine Ev.compR (n := size) (t := tieBit nums i) (f := fun j => .int (2 ^ j)) [0, 3] ⟨by decide, rfl, rfl, rfl, rfl, rfl, rfl⟩ ?_ (by simp only [sizeLine]; (first | lia | omega)) (fun j hj => TrC.one ?_) (fun j hj _ => ?_) (fun j _ _ => rfl)
      · exact It.rangeN (q1 := .R) (.blt W rfl B.range rfl (by decide)) (Ev.var 1 rfl rfl rfl) (by (first | lia | omega))
      · refine Tr.int (q1 := .R) (Ev.op2 (q1 := .R) (q2 := .R) (Ev.op2 (q1 := .R) (q2 := .R) (Ev.idxA (q0 := .R) (q1 := .R) (k := ((max i j : Nat) : Int)) (Ev.var 1 rfl rfl rfl) (Ev.call (q1 := .R) (.blt W rfl B.max rfl (by decide)) (.blt _) (Evs.cons (Ev.var 2 rfl rfl rfl) (Evs.cons (Ev.var 0 rfl rfl rfl) Evs.nil)) (c_max.to (by congr 1; (first | lia | omega)))) (by (first | lia | omega)) (by (first | lia | omega)) (by rw [Int.toNat_natCast]; exact get_ints (by (first | lia | omega))) rfl)
          (Ev.call (q1 := .R) (.blt W rfl B.min rfl (by decide)) (.blt _) (Evs.cons (Ev.var 2 rfl rfl rfl) (Evs.cons (Ev.var 0 rfl rfl rfl) Evs.nil)) (c_min.to (p' := .int ((min i j : Nat) : Int)) (by congr 1; (first | lia | omega)))) ((o_shr (by (first | lia | omega))).to (by rw [Int.toNat_natCast]))) Ev.cint o_and)
      · exact Ev.op2 (q1 := .R) (q2 := .R) Ev.cint (Ev.var 0 rfl rfl rfl) (o_pow2 (by (first | lia | omega)))
    refine Sx.nil ?_
    show Le [some (.ints nums, .imm), some (.int size, .imm), some (.ints ((List.range (i + 1)).map (tieRow nums size)), .mut), none] _
    rw [List.range_succ, List.map_append]
    have e : PV.ints ((List.range i).map (tieRow nums size) ++ [i].map (tieRow nums size)) = .list (((List.range i).map (tieRow nums size)).map .int ++ [.int (tieRow nums size i)]) := by simp [PV.ints]
    rw [e]
    exact (Le.same (Le.same (Le.same (Le.drop Le.nil))))
  · refine Sx.nil ?_
    refine Sx.cons (S1.retOwn 2 rfl rfl (by intro h; cases h) ?_)
    show Out.ret _ = _
    rw [List.length_map, List.length_range, Int.toNat_natCast]
    rfl
end
end Mine
open PySem PySem.Calls PyProof.Rows PySem.W
set_option Elab.async false
set_option autoImplicit false
set_option linter.unusedVariables false
namespace Mine
section
variable {S : Sys} {sc : Scope} {ns : List Str} {base : Heap} {env : Env} {s s' s0 : Shared} {ρ ρ' : Ro} {rt : Nat → Addr} {b : Bool} {d : Nat} {q : Md} {p p1 p2 p' : PV} {mg mb : Str → Option Value}


theorem rank_body {rows : List Int} (W : S.Ok mg mb) (B : Bn mg) (hs : rows.length < 2 ^ 20) :
    Sx S (stScope (topAt 20)) ["rows", "basis", "row", "left", "one"] b d [some (.ints rows, .imm), none, none, none, none] (stBody (topAt 20)) (fun o => o = .ret (.int (basisOf rows).length)) := by
  refine Sx.cons (S1.assignOwn (p := .list []) 1 rfl (Ev.list Evs.nil) rfl ?_ (by decide) (by decide))
  refine Sx.cons (S1.for 2 rfl (It.list (Ev.var 0 rfl rfl rfl) (atoms_ints rows))
    (fun j => [some (.ints rows, .imm), some (.ints (basisOf (rows.take j)), .mut), none, none, none]) Le.refl ?_ ?_ (by decide) (by decide))
  · intro j p hj
    obtain ⟨hj', rfl⟩ := items_ints hj
    clear hj
    obtain ⟨ba, hba⟩ : ∃ ba, ba = basisOf (rows.take j) := ⟨_, rfl⟩
    obtain ⟨row, hrow⟩ : ∃ row, row = rows[j] := ⟨_, rfl⟩
    have hbl : ba.length ≤ j := by rw [hba]; have := basis_len (rows.take j) []; simp at this; unfold basisOf; (first | lia | omega)
    have hnext : basisOf (rows.take (j + 1)) = rankStep ba row := by rw [take_snoc hj', hba, hrow]; simp only [basisOf, List.foldl_append, List.foldl_cons, List.foldl_nil]
    simp only [← hba, ← hrow]
    refine Sx.cons (S1.assign 3 rfl (Ev.var 2 rfl rfl rfl) ?_ (by decide) (by decide))
    refine Sx.cons (S1.frozen 1 rfl (S1.for 4 rfl (It.list (Ev.var 1 rfl rfl rfl) (atoms_ints ba))
      (fun i => [some (.ints rows, .imm), some (.ints ba, .frz), some (.int row, .imm), some (.int (redBy (ba.take i) row), .imm), none]) Le.refl ?_ ?_ (by decide) (by decide)))
    · intro i p hi
      obtain ⟨hi', rfl⟩ := items_ints hi
      clear hi
      refine Sx.cons (S1.assign (p := .int (redBy (ba.take (i + 1)) row)) 3 rfl (Ev.call (q1 := .R) (.blt W rfl B.min rfl (by decide)) (.blt _) (Evs.cons (Ev.var 3 rfl rfl rfl) (Evs.cons (Ev.op2 (q1 := .R) (q2 := .R) (Ev.var 3 rfl rfl rfl) (Ev.var 4 rfl rfl rfl) o_xor) Evs.nil)) (c_min.to ?_)) ?_ (by decide) (by decide))
      · rw [take_snoc hi']; simp only [redBy, redStep, List.foldl_append, List.foldl_cons, List.foldl_nil]
      · refine Sx.nil ?_
        exact (Le.same (Le.same (Le.same (Le.same (Le.drop Le.nil)))))
    · refine Sx.nil ⟨_, rfl, ?_⟩
      have e1 : (ba.map PV.int).length = ba.length := by simp
      show Sx S _ _ b d [some (.ints rows, .imm), some (.ints ba, .mut), some (.int row, .imm), some (.int (redBy (ba.take (ba.map PV.int).length) row), .imm), none] _ _
      rw [e1, List.take_length]
      refine Sx.cons (S1.if (Tr.int (q1 := .R) (Ev.var 3 rfl rfl rfl)) (fun hc => ?_) (fun hc => ?_))
      · have e2 : rankStep ba row = ba ++ [redBy ba row] := by unfold rankStep; rw [if_pos hc]
        refine Sx.cons (S1.append (p := .int (redBy ba row)) 1 rfl rfl (Ev.var 3 rfl rfl rfl) (flat_atoms (by rw [List.all_append, atoms_ints]; rfl)) (by simp only [List.length_map, sizeLine]; (first | lia | omega)) ?_)
        refine Sx.nil (Sx.nil ?_)
        show Le [some (.ints rows, .imm), some (.ints (basisOf (rows.take (j + 1))), .mut), none, none, none] _
        rw [hnext]
        have e3 : PV.ints (rankStep ba row) = .list (ba.map .int ++ [.int (redBy ba row)]) := by rw [e2]; simp [PV.ints]
        rw [e3]
        exact (Le.same (Le.same (Le.drop (Le.drop (Le.drop Le.nil)))))
      · have e2 : rankStep ba row = ba := by unfold rankStep; rw [if_neg (by rw [hc]; decide)]
        refine Sx.nil (Sx.nil ?_)
        show Le [some (.ints rows, .imm), some (.ints (basisOf (rows.take (j + 1))), .mut), none, none, none] _
        rw [hnext, e2]
        exact (Le.same (Le.same (Le.drop (Le.drop (Le.drop Le.nil)))))
  · refine Sx.nil ?_
    have hbl := basis_len rows []
    simp at hbl
    have e1 : (rows.map PV.int).length = rows.length := by simp
    show Sx S _ _ b d [some (.ints rows, .imm), some (.ints (basisOf (rows.take (rows.map PV.int).length)), .mut), none, none, none] _ _
    rw [e1, List.take_length]
    refine Sx.cons (S1.ret (p := .int (basisOf rows).length) (Ev.call (q1 := .R) (.blt W rfl B.len rfl (by decide)) (.blt _) (Evs.cons (Ev.var 1 rfl rfl rfl) Evs.nil) ((c_lenList (by unfold basisOf; rw [List.length_map]; (first | lia | omega))).to (by rw [List.length_map]))) rfl)

noncomputable def sharedOf (chosen : Int) (lit : List Str) (places : List Str) : List Nat := (List.range places.length).filter fun p => (Builtin.bitAnd (chosen.fdiv (2 ^ p)) 1 != 0) && lit.any (· == places.getD p default)

theorem shared_body {chosen : Int} {words : Str} {places lit : List Str} (W : S.Ok mg mb) (B : Bn mg) (hs : places.length < 2 ^ 20) (hl : Txt.split words ", " = lit) (hw : words.length < 2 ^ 20) (hll : lit.length < 2 ^ 20) :
    Sx S (stScope (topAt 22)) ["chosen", "words", "places", "lit"] b d [some (.int chosen, .imm), some (.str words, .imm), some (.strs places, .imm), none] (stBody (topAt 22)) (fun o => o = .ret (.int (sharedOf chosen lit places).length)) := by
  refine Sx.cons (S1.assign (p := .strs lit) 3 rfl (Ev.meth (q0 := .R) (q1 := .R) (p1 := .str words) PySem.F.plainAttrs_str PySem.F.slot_str_split PySem.F.type_str_split (Ev.var 1 rfl rfl rfl) (fun s v fp r => by (first | obtain ⟨_, rfl, rfl⟩ := r.inv | cases r); exact ⟨rfl, fun a h => by cases h⟩) (Evs.cons Ev.cstr Evs.nil) (c_split rfl hl (by simp only [sizeLine]; (first | lia | omega)) (by simp only [sizeLine]; (first | lia | omega)))) ?_ (by decide) (by decide))
  refine Sx.cons (S1.ret (p := .int (sharedOf chosen lit places).length) (Ev.call (ps := [.list ((sharedOf chosen lit places).map fun (j : Nat) => PV.int (j : Int))]) (q1 := .R) (.blt W rfl B.len rfl (by decide)) (.blt _) (Evs.cons ?_ Evs.nil) ((c_lenList ?_).to (by rw [List.length_map]))) rfl)
  · refine Ev.compR (n := places.length) (f := fun (j : Nat) => .int (j : Int)) [0, 2, 3] ⟨by decide, rfl, rfl, rfl, rfl, rfl, rfl⟩ ?_ (by simp only [sizeLine]; (first | lia | omega)) (fun j hj => TrC.one ?_) (fun j hj _ => ?_) (fun j _ _ => rfl)
    · exact It.rangeN (q1 := .R) (.blt W rfl B.range rfl (by decide)) (Ev.call (q1 := .R) (.blt W rfl B.len rfl (by decide)) (.blt _) (Evs.cons (Ev.var 2 rfl rfl rfl) Evs.nil) ((c_lenList (by rw [List.length_map]; (first | lia | omega))).to (by rw [List.length_map]))) (by (first | lia | omega))
    · exact Tr.and2 (Tr.int (q1 := .R) (Ev.op2 (q1 := .R) (q2 := .R) (Ev.op2 (q1 := .R) (q2 := .R) (Ev.var 1 rfl rfl rfl) (Ev.var 0 rfl rfl rfl) ((o_shr (by (first | lia | omega))).to (by rw [Int.toNat_natCast]))) Ev.cint o_and))
        (fun _ => Tr.cmp (q1 := .R) (q2 := .R) (Ev.idxA (q0 := .R) (q1 := .R) (k := (j : Int)) (Ev.var 2 rfl rfl rfl) (Ev.var 0 rfl rfl rfl) (by (first | lia | omega)) (by (first | lia | omega)) (by rw [Int.toNat_natCast]; exact get_strs hj) rfl) (Ev.var 3 rfl rfl rfl) o_inStrs)
    · exact Ev.var 0 rfl rfl rfl
  · have : (sharedOf chosen lit places).length ≤ places.length := by
      unfold sharedOf
      exact Nat.le_trans (List.length_filter_le _ _) (by simp)
    rw [List.length_map]; (first | lia | omega)
end
end Mine
open PySem PySem.Calls PyProof.Rows PySem.W
set_option Elab.async false
set_option autoImplicit false
set_option linter.unusedVariables false
set_option maxRecDepth 20000
namespace Mine
section
variable {S : Sys} {sc : Scope} {ns : List Str} {base : Heap} {env : Env} {s s' s0 : Shared} {ρ ρ' : Ro} {rt : Nat → Addr} {b : Bool} {d : Nat} {q : Md} {p p1 p2 p' : PV} {mg mb : Str → Option Value}

theorem ties_ok {a : Addr} {fd : FuncData} {nums : List Int} {size : Nat} (W : S.Ok mg mb) (B : Bn mg) (T : TopFn S mg 19 a fd) (hs : size ≤ nums.length) (hs2 : size < 2 ^ 20) : CallOk S b (d + 1) (.ref a) [.ints nums, .int size] (.ints (tiesOf nums size)) :=
  top_ok (params := ["numbers", "size"]) (rest := ["ties", "i"]) W T (ties_body W B hs hs2) rfl (by decide) (by decide) (vec2 fun _ _ fd => rfl) rfl rfl rfl
theorem rank_ok {a : Addr} {fd : FuncData} {rows : List Int} (W : S.Ok mg mb) (B : Bn mg) (T : TopFn S mg 20 a fd) (hs : rows.length < 2 ^ 20) : CallOk S b (d + 1) (.ref a) [.ints rows] (.int (basisOf rows).length) :=
  top_ok (params := ["rows"]) (rest := ["basis", "row", "left", "one"]) W T (rank_body W B hs) rfl (by decide) (by decide) (vec1 fun _ fd => rfl) rfl rfl rfl
theorem shared_ok {a : Addr} {fd : FuncData} {chosen : Int} {words : Str} {places lit : List Str} (W : S.Ok mg mb) (B : Bn mg) (T : TopFn S mg 22 a fd) (hs : places.length < 2 ^ 20) (hl : Txt.split words ", " = lit) (hw : words.length < 2 ^ 20) (hll : lit.length < 2 ^ 20) :
    CallOk S b (d + 1) (.ref a) [.int chosen, .str words, .strs places] (.int (sharedOf chosen lit places).length) :=
  top_ok (params := ["chosen", "words", "places"]) (rest := ["lit"]) W T (shared_body W B hs hl hw hll) rfl (by decide) (by decide) (vec3 fun _ _ _ fd => rfl) rfl rfl rfl
end
end Mine
open PySem PySem.Calls PyProof.Rows PySem.W
set_option Elab.async false
set_option autoImplicit false
set_option linter.unusedVariables false
set_option maxRecDepth 20000
namespace Mine

noncomputable def dots (c : Nat) : Str := Mine.S (List.replicate c 46)
noncomputable def tz : Nat → Nat → Nat
  | 0, _ => 0
  | f + 1, s => if s % 2 = 1 then 0 else tz f (s / 2) + 1
noncomputable def touchedOf (ties : List Int) (place : Nat) : List Nat := (List.range ties.length).filter fun p => Builtin.bitAnd ((ties.getD place 0).fdiv (2 ^ p)) 1 != 0
noncomputable def press (cs : List Nat) (touched : List Nat) : List Nat := touched.foldl (fun cs p => cs.set p (cs.getD p 0 + 1)) cs
noncomputable def lampVal (cs : List Nat) : Nat := nsum 1 (cs.map fun c => (c + 1) % 2)

structure Pic where
  cs : List Nat
  pressed : Nat
  ks : List Str
  vs : List (List Int)

noncomputable def picStep (ties : List Int) (st : Pic) (step : Nat) : Pic :=
  let place := tz ties.length step
  let cs := press st.cs (touchedOf ties place)
  let pressed := st.pressed ^^^ 2 ^ place
  let w := pf (lampVal cs)
  { cs := cs, pressed := pressed, ks := dkeys st.ks w,
    vs := if st.ks.any (fun x => decide (x = w)) then List.zipWith (fun x l => if x = w then l ++ [(pressed : Int)] else l) st.ks st.vs else st.vs ++ [[(pressed : Int)]] }
noncomputable def picStart (size : Nat) : Pic := { cs := List.replicate size 1, pressed := 0, ks := [pf 0], vs := [[0]] }
noncomputable def picAfter (ties : List Int) (j : Nat) : Pic := (List.range j).foldl (fun st i => picStep ties st (i + 1)) (picStart ties.length)

theorem press_len (touched : List Nat) : ∀ cs : List Nat, (press cs touched).length = cs.length := by
  induction touched with
  | nil => intro cs; rfl
  | cons p t ih => intro cs; show (press (cs.set p _) t).length = _; rw [ih]; simp
theorem picAfter_succ (ties : List Int) (j : Nat) : picAfter ties (j + 1) = picStep ties (picAfter ties j) (j + 1) := by simp [picAfter, List.range_succ]
theorem pic_len (ties : List Int) : ∀ j, (picAfter ties j).cs.length = ties.length
  | 0 => by simp [picAfter, picStart]
  | j + 1 => by rw [picAfter_succ]; simp only [picStep]; rw [press_len, pic_len ties j]
end Mine
open PySem PySem.Calls PyProof.Rows PySem.W
set_option Elab.async false
set_option autoImplicit false
set_option linter.unusedVariables false
set_option maxRecDepth 20000
namespace Mine
section
variable {S : Sys} {sc : Scope} {ns : List Str} {base : Heap} {env : Env} {s s' s0 : Shared} {ρ ρ' : Ro} {rt : Nat → Addr} {b : Bool} {d : Nat} {q : Md} {p p1 p2 p' : PV} {mg mb : Str → Option Value}

noncomputable abbrev picNs : List Str := ["ties", "end", "rows", "pressed", "pictures", "step", "place", "touched", "sent", "k", "words"]
noncomputable def picJ (ties : List Int) (en : Str) (j : Nat) : Ro := [some (.ints ties, .imm), some (.str en, .imm), some (.strs ((picAfter ties j).cs.map dots), .mut), some (.int (picAfter ties j).pressed, .imm), some (.dict (picAfter ties j).ks ((picAfter ties j).vs.map PV.ints), .mut), none, none, none, none, none, none]

theorem pic_body {ties : List Int} {en : List Nat} {aF aQ aD : Addr} {fF fQ fD : FuncData} (W : S.Ok mg mb) (B : Bn mg) (TF : TopFn S mg 11 aF fF) (TQ : TopFn S mg 16 aQ fQ) (TD : TopFn S mg 6 aD fD) (mF : mg "pretty_flags" = some (.ref aF)) (mQ : mg "quotedata" = some (.ref aQ)) (mD : mg "_digits2int" = some (.ref aD))
    (he : isEnd en) (hsz : ties.length ≤ 5) (hF : ∀ {b : Bool} {x : Nat}, x < 32 → CallOk S b d (.ref aF) [.int x] (.str (pf x)))
    (step : ∀ j, j < 2 ^ ties.length - 1 → Sx S (stScope (topAt 21)) picNs false d ((picJ ties (Mine.S en) j).set 5 (some (.int ((j + 1 : Nat) : Int), .imm))) (match stAt (stBody (topAt 21)) 3 with | .For _ _ bd _ _ => bd | _ => []) (fun o => match o with | .next ρ' => Le (picJ ties (Mine.S en) (j + 1)) ρ' | _ => False)) :
    Sx S (stScope (topAt 21)) picNs false d [some (.ints ties, .imm), some (.str (Mine.S en), .imm), none, none, none, none, none, none, none, none, none] (stBody (topAt 21)) (fun o => o = .ret (.dict (picAfter ties (2 ^ ties.length - 1)).ks ((picAfter ties (2 ^ ties.length - 1)).vs.map PV.ints))) := by
  refine Sx.cons (S1.assignOwn (p := .strs (List.replicate ties.length (dots 1))) 2 rfl (Ev.cast (p := .list (List.replicate ((ties.length : Nat) : Int).toNat (.str "."))) (Ev.op2 (q1 := .R) (q2 := .R) (Ev.list (Evs.cons Ev.cstr Evs.nil)) (Ev.call (q1 := .R) (.blt W rfl B.len rfl (by decide)) (.blt _) (Evs.cons (Ev.var 0 rfl rfl rfl) Evs.nil) ((c_lenList (by rw [List.length_map]; (first | lia | omega))).to (p' := .int (ties.length : Nat)) (by rw [List.length_map]))) (o_lmul rfl (by (first | lia | omega)) (by (first | lia | omega)))) ?_) (flat_atoms (atoms_strs _)) ?_ (by decide) (by decide))
  · rw [Int.toNat_natCast]
    show PV.list _ = PV.list _
    rw [List.map_replicate]
    congr 2
  refine Sx.cons (S1.assign (p := .int 0) 3 rfl Ev.cint ?_ (by decide) (by decide))
  refine Sx.cons (S1.assignOwn (p := .dict [pf 0] [.ints [0]]) 4 rfl (Ev.dict1 (q1 := .R) W (Ev.call (q1 := .R) (.glob W rfl mF) (TF.callee W) (Evs.cons Ev.cint Evs.nil) (hF (x := 0) (by decide))) (Ev.list (Evs.cons Ev.cint Evs.nil))) rfl ?_ (by decide) (by decide))
  have h2 : (2 : Nat) ^ ties.length ≤ 32 := by
    have : ties.length = 0 ∨ ties.length = 1 ∨ ties.length = 2 ∨ ties.length = 3 ∨ ties.length = 4 ∨ ties.length = 5 := by (first | lia | omega)
    rcases this with h | h | h | h | h | h <;> rw [h] <;> decide
  obtain ⟨N, hN⟩ : ∃ N, N = 2 ^ ties.length := ⟨_, rfl⟩
  have hN1 : 1 ≤ N := by rw [hN]; exact Nat.two_pow_pos _
  rw [← hN] at h2 step ⊢
  refine Sx.cons (S1.for 5 rfl (It.range2 (q1 := .R) (lo := 1) (hi := (N : Int)) (.blt W rfl B.range rfl (by decide)) Ev.cint (Ev.op2 (q1 := .R) (q2 := .R) Ev.cint (Ev.call (q1 := .R) (.blt W rfl B.len rfl (by decide)) (.blt _) (Evs.cons (Ev.var 0 rfl rfl rfl) Evs.nil) ((c_lenList (by rw [List.length_map]; (first | lia | omega))).to (p' := .int (ties.length : Nat)) (by rw [List.length_map]))) ((o_pow2 (by (first | lia | omega))).to (by rw [hN, Int.natCast_pow]; rfl))) (by decide) (by decide) (by (first | lia | omega)) (by (first | lia | omega)))
    (picJ ties (Mine.S en)) ?_ ?_ ?_ (by decide) (by decide))
  · unfold picJ picAfter picStart
    simp only [List.range_zero, List.foldl_nil, List.map_replicate, List.map_cons, List.map_nil]
    exact Le.refl
  · intro j p hj
    have hjN : j < N - 1 ∧ p = .int ((j + 1 : Nat) : Int) := by
      rw [List.getElem?_map] at hj
      by_cases h : j < ((N : Int) - 1).toNat
      · rw [List.getElem?_range h] at hj
        cases hj
        exact ⟨by (first | lia | omega), by show PV.int (1 + (j : Int)) = _; rw [Int.add_comm]; rfl⟩
      · rw [List.getElem?_eq_none (by simp; (first | lia | omega))] at hj; cases hj
    obtain ⟨h1, rfl⟩ := hjN
    refine Sx.mono (step j h1) fun o ho => ?_
    cases o with
    | next ρ' => exact ho
    | brk _ => exact ho.elim
    | cont _ => exact ho.elim
    | ret _ => exact ho.elim
  · refine Sx.nil ?_
    have el : (List.map (fun (i : Nat) => PV.int (1 + i)) (List.range ((N : Int) - 1).toNat)).length = N - 1 := by rw [List.length_map, List.length_range]; (first | lia | omega)
    rw [el]
    exact Sx.cons (S1.retOwn 4 rfl rfl (by intro h; cases h) rfl)
end
end Mine
open PySem PySem.Calls PyProof.Rows PySem.W
set_option Elab.async false
set_option autoImplicit false
set_option linter.unusedVariables false
set_option maxRecDepth 20000
namespace Mine
theorem tz_spec : ∀ n s, n ≤ 5 → s < 2 ^ n → 0 < s → tz n s < n ∧ (∀ i, i < tz n s → s / 2 ^ i % 2 = 0) ∧ s / 2 ^ tz n s % 2 = 1
  | 0, s, _, h, h0 => by simp at h; (first | lia | omega)
  | n + 1, s, hn, h, h0 => by
    unfold tz
    by_cases h1 : s % 2 = 1
    · rw [if_pos h1]
      exact ⟨by (first | lia | omega), fun i hi => by (first | lia | omega), by simpa using h1⟩
    · rw [if_neg h1]
      obtain ⟨a, c, e⟩ := tz_spec n (s / 2) (by (first | lia | omega)) (by rw [Nat.pow_succ] at h; (first | lia | omega)) (by (first | lia | omega))
      refine ⟨by (first | lia | omega), fun i hi => ?_, ?_⟩
      · cases i with
        | zero => simp; (first | lia | omega)
        | succ i =>
          have := c i (by (first | lia | omega))
          rw [Nat.div_div_eq_div_mul] at this
          rw [Nat.pow_succ, Nat.mul_comm]; exact this
      · rw [Nat.div_div_eq_div_mul] at e
        rw [Nat.pow_succ, Nat.mul_comm]; exact e

section
variable {S : Sys} {sc : Scope} {ns : List Str} {base : Heap} {env : Env} {s s' s0 : Shared} {ρ ρ' : Ro} {rt : Nat → Addr} {b : Bool} {d : Nat} {q : Md} {p p1 p2 p' : PV} {mg mb : Str → Option Value}

theorem bit_even (s i : Nat) : (Builtin.bitAnd (((s : Int)).fdiv (2 ^ i)) 1 == 0) = decide (s / 2 ^ i % 2 = 0) := by
  have e : (s : Int).fdiv (2 ^ i) = ((s / 2 ^ i : Nat) : Int) := by
    rw [Int.fdiv_eq_ediv_of_nonneg _ (Int.le_of_lt (Int.pow_pos (by decide))), Int.natCast_ediv, Int.natCast_pow]; rfl
  rw [e, show (1 : Int) = ((1 : Nat) : Int) from rfl, bitAnd_nat, Nat.and_one_is_mod]
  generalize s / 2 ^ i % 2 = z
  by_cases h : z = 0
  · subst h; rfl
  · rw [decide_eq_false h]
    exact beq_eq_false_iff_ne.mpr (by (first | lia | omega))
end
end Mine
open PySem PySem.Calls PyProof.Rows PySem.W
set_option Elab.async false
set_option autoImplicit false
set_option linter.unusedVariables false
set_option maxRecDepth 20000
namespace Mine
section
variable {S : Sys} {sc : Scope} {ns : List Str} {base : Heap} {env : Env} {s s' s0 : Shared} {ρ ρ' : Ro} {rt : Nat → Addr} {b : Bool} {d : Nat} {q : Md} {p p1 p2 p' : PV} {mg mb : Str → Option Value}

noncomputable abbrev picLoop : List Stmt := match stAt (stBody (topAt 21)) 3 with | .For _ _ bd _ _ => bd | _ => []

theorem pic_step1 {ties : List Int} {en : Str} {cs : List Nat} {pr : Nat} {ks : List Str} {vs : List (List Int)} {j : Nat} {Φ : Out → Prop} (W : S.Ok mg mb) (B : Bn mg) (hsz : ties.length ≤ 5) (hj : j < 2 ^ ties.length) (hj0 : 0 < j)
    (rest : Sx S (stScope (topAt 21)) picNs false d [some (.ints ties, .imm), some (.str en, .imm), some (.strs (cs.map dots), .mut), some (.int ((pr ^^^ 2 ^ tz ties.length j : Nat) : Int), .imm), some (.dict ks (vs.map PV.ints), .mut), some (.int j, .imm), some (.int (tz ties.length j), .imm), some (.ints ((touchedOf ties (tz ties.length j)).map Int.ofNat), .imm), none, none, none] (picLoop.drop 4) Φ) :
    Sx S (stScope (topAt 21)) picNs false d [some (.ints ties, .imm), some (.str en, .imm), some (.strs (cs.map dots), .mut), some (.int pr, .imm), some (.dict ks (vs.map PV.ints), .mut), some (.int j, .imm), none, none, none, none, none] picLoop Φ := by
  obtain ⟨h1, h2, h3⟩ := tz_spec ties.length j hsz hj hj0
  obtain ⟨pl, hpl⟩ : ∃ pl, pl = tz ties.length j := ⟨_, rfl⟩
  rw [← hpl] at h1 h2 h3 rest
  refine Sx.cons (S1.assign (p := .int 0) 6 rfl Ev.cint ?_ (by decide) (by decide))
  have tst : ∀ i : Nat, i ≤ pl → Tr S (stScope (topAt 21)) picNs false d [some (.ints ties, .imm), some (.str en, .imm), some (.strs (cs.map dots), .mut), some (.int pr, .imm), some (.dict ks (vs.map PV.ints), .mut), some (.int j, .imm), some (.int i, .imm), none, none, none, none]
      (match stAt picLoop 1 with | .While t _ _ _ => t | _ => .Name "" default) (decide (j / 2 ^ i % 2 = 0)) := fun i hi =>
    Tr.cast (Tr.cmp (q1 := .R) (q2 := .R) (Ev.op2 (q1 := .R) (q2 := .R) (Ev.op2 (q1 := .R) (q2 := .R) (Ev.var 5 rfl rfl rfl) (Ev.var 6 rfl rfl rfl) ((o_shr (by (first | lia | omega))).to (by rw [Int.toNat_natCast]))) Ev.cint o_and) Ev.cint o_eq) (bit_even j i)
  refine Sx.cons (S1.while pl (fun i => [some (.ints ties, .imm), some (.str en, .imm), some (.strs (cs.map dots), .mut), some (.int pr, .imm), some (.dict ks (vs.map PV.ints), .mut), some (.int j, .imm), some (.int i, .imm), none, none, none, none]) Le.refl
    (fun i hi => (tst i (Nat.le_of_lt hi)).cast (decide_eq_true (h2 i hi))) ((tst pl (Nat.le_refl _)).cast (decide_eq_false (by (first | lia | omega)))) (fun i hi => ?_) ?_)
  · refine Sx.cons (S1.aug (q1 := .R) (p := .int ((i + 1 : Nat) : Int)) 6 rfl rfl Ev.cint (i_add.to (by (first | lia | omega))) ?_ (by decide) (by decide))
    exact Sx.nil Le.refl
  refine Sx.nil ?_
  refine Sx.cons (S1.aug (q1 := .R) (p := .int ((pr ^^^ 2 ^ pl : Nat) : Int)) 3 rfl rfl (Ev.op2 (q1 := .R) (q2 := .R) Ev.cint (Ev.var 6 rfl rfl rfl) (o_pow2 (by (first | lia | omega)))) (i_xor.to ?_) ?_ (by decide) (by decide))
  · rw [show (2 : Int) ^ pl = ((2 ^ pl : Nat) : Int) from (Int.natCast_pow 2 pl).symm, bitXor_nat]
  have ht : PV.list (((List.range ties.length).filter fun p => Builtin.bitAnd ((ties.getD pl 0).fdiv (2 ^ p)) 1 != 0).map fun (p : Nat) => PV.int (p : Int)) = .ints ((touchedOf ties pl).map Int.ofNat) := by
    unfold touchedOf; simp [PV.ints, List.map_map]
  refine Sx.cons (S1.assignCompR (n := ties.length) (t := fun p => Builtin.bitAnd ((ties.getD pl 0).fdiv (2 ^ p)) 1 != 0) (f := fun (p : Nat) => PV.int (p : Int)) .imm 7 rfl [0, 6] ⟨by decide, rfl, rfl, rfl, rfl, rfl, rfl⟩ ?_ (by simp only [sizeLine]; (first | lia | omega)) (fun p hp => TrC.one ?_) (fun p hp _ => ?_) (fun p _ _ => rfl) ?_ (by decide) rfl)
  · exact It.rangeN (q1 := .R) (.blt W rfl B.range rfl (by decide)) (Ev.call (q1 := .R) (.blt W rfl B.len rfl (by decide)) (.blt _) (Evs.cons (Ev.var 0 rfl rfl rfl) Evs.nil) ((c_lenList (by rw [List.length_map]; (first | lia | omega))).to (by rw [List.length_map]))) (by (first | lia | omega))
  · exact Tr.int (q1 := .R) (Ev.op2 (q1 := .R) (q2 := .R) (Ev.op2 (q1 := .R) (q2 := .R) (Ev.idxA (q0 := .R) (q1 := .R) (k := (pl : Int)) (Ev.var 1 rfl rfl rfl) (Ev.var 2 rfl rfl rfl) (by (first | lia | omega)) (by (first | lia | omega)) (by rw [Int.toNat_natCast]; exact get_ints h1) rfl) (Ev.var 0 rfl rfl rfl) ((o_shr (by (first | lia | omega))).to (by rw [Int.toNat_natCast]))) Ev.cint o_and)
  · exact Ev.var 0 rfl rfl rfl
  · rw [ht]
    exact rest
end
end Mine
open PySem PySem.Calls PyProof.Rows PySem.W
set_option Elab.async false
set_option autoImplicit false
set_option linter.unusedVariables false
set_option maxRecDepth 20000
namespace Mine
noncomputable def rowOf (cs : List Nat) (p : Nat) : List Nat := List.replicate (cs.getD p 0) 46
noncomputable def linesOf (cs touched : List Nat) : List (List Nat) := if touched = [] then [[]] else touched.map (rowOf cs)
theorem glue_lines (e : List Nat) (cs touched : List Nat) : glue e (linesOf cs touched) = glue e (touched.map (rowOf cs)) := by
  unfold linesOf
  split
  · rename_i h; subst h; rfl
  · rfl
theorem lines_ne (cs touched : List Nat) : linesOf cs touched ≠ [] := by
  unfold linesOf
  split
  · simp
  · rename_i h; simpa using h
theorem ok_dots (c : Nat) : okLine (List.replicate c 46) := ⟨fun h => by simp [List.mem_replicate] at h, fun h => by simp [List.mem_replicate] at h⟩
theorem lines_ok (cs touched : List Nat) : ∀ l ∈ linesOf cs touched, okLine l := by
  unfold linesOf
  split
  · intro l hl; simp at hl; subst hl; exact ok_dots 0
  · intro l hl
    obtain ⟨p, _, rfl⟩ := List.mem_map.mp hl
    exact ok_dots _
theorem dotted_rep {c : Nat} (h : 0 < c) : dotted (List.replicate c 46) = List.replicate (c + 1) 46 := by
  unfold dotted
  cases c with
  | zero => (first | lia | omega)
  | succ c => rw [if_pos (by simp [List.replicate_succ])]; rfl
theorem ok_dotted {l : List Nat} (h : okLine l) : okLine (dotted l) := by
  unfold dotted
  split
  · exact ⟨fun h' => by rcases List.mem_cons.mp h' with h' | h'; exact absurd h' (by decide); exact h.1 h', fun h' => by rcases List.mem_cons.mp h' with h' | h'; exact absurd h' (by decide); exact h.2 h'⟩
  · exact h
theorem glue_len (e : List Nat) : ∀ (ls : List (List Nat)) (m : Nat), (∀ l ∈ ls, l.length ≤ m) → (glue e ls).length ≤ ls.length * (m + e.length)
  | [], _, _ => by simp [glue]
  | [l], m, h => by
    have := h l (.head _)
    simp only [glue, List.length_cons, List.length_nil]; (first | lia | omega)
  | l :: l2 :: ls, m, h => by
    have h1 := h l (.head _)
    have h2 := glue_len e (l2 :: ls) m fun x hx => h x (.tail _ hx)
    rw [glue_cons (by simp)]
    simp only [List.length_append]
    have : (l :: l2 :: ls).length * (m + e.length) = (m + e.length) + (l2 :: ls).length * (m + e.length) := by rw [List.length_cons, Nat.add_mul]; (first | lia | omega)
    (first | lia | omega)
end Mine
open PySem PySem.Calls PyProof.Rows PySem.W
set_option Elab.async false
set_option autoImplicit false
set_option linter.unusedVariables false
set_option maxRecDepth 20000
namespace Mine

theorem getD_set_nat (l : List Nat) (p q x : Nat) (h : q < l.length) : (l.set p x).getD q 0 = if p = q then x else l.getD q 0 := by
  simp only [List.getD_eq_getElem?_getD]
  by_cases e : p = q
  · subst e; rw [if_pos rfl, List.getElem?_set_self h]; rfl
  · rw [if_neg e, List.getElem?_set_ne e]

theorem press_getD : ∀ (t : List Nat), t.Nodup → ∀ (cs : List Nat) (q : Nat), q < cs.length → (press cs t).getD q 0 = cs.getD q 0 + (if q ∈ t then 1 else 0)
  | [], _, cs, q, _ => by simp [press]
  | p :: t, nd, cs, q, hq => by
    have hp := List.nodup_cons.mp nd
    show (press (cs.set p (cs.getD p 0 + 1)) t).getD q 0 = _
    rw [press_getD t hp.2 _ q (by simpa using hq), getD_set_nat _ _ _ _ hq]
    by_cases e : p = q
    · subst e
      rw [if_pos rfl, if_neg hp.1, if_pos (.head _)]
    · rw [if_neg e]
      have : (q ∈ p :: t) ↔ q ∈ t := ⟨fun h => (List.mem_cons.mp h).resolve_left (Ne.symm e), fun h => .tail _ h⟩
      simp only [this]

theorem touched_nodup (ties : List Int) (pl : Nat) : (touchedOf ties pl).Nodup := List.nodup_range.sublist List.filter_sublist
theorem touched_lt {ties : List Int} {pl p : Nat} (h : p ∈ touchedOf ties pl) : p < ties.length := List.mem_range.mp (List.mem_filter.mp h).1
theorem touched_len (ties : List Int) (pl : Nat) : (touchedOf ties pl).length ≤ ties.length := Nat.le_trans (List.length_filter_le _ _) (by simp)

theorem mem_getD {l : List Nat} {c : Nat} (h : c ∈ l) : ∃ q, q < l.length ∧ l.getD q 0 = c := by
  obtain ⟨q, hq, e⟩ := List.getElem_of_mem h
  exact ⟨q, hq, by rw [List.getD_eq_getElem?_getD, List.getElem?_eq_getElem hq, e]; rfl⟩
theorem getD_mem {l : List Nat} {q : Nat} (h : q < l.length) : l.getD q 0 ∈ l := by
  rw [List.getD_eq_getElem?_getD, List.getElem?_eq_getElem h]; exact List.getElem_mem h

structure PicOk (n j : Nat) (st : Pic) : Prop where
  len : st.cs.length = n
  low : ∀ c ∈ st.cs, 1 ≤ c ∧ c ≤ j + 1
  nd : st.ks.Nodup
  kv : st.ks.length = st.vs.length
  few : st.ks.length ≤ j + 1
  short : ∀ l ∈ st.vs, l.length ≤ j + 1

theorem any_eq (ks : List Str) (w : Str) : (ks.any fun x => decide (x = w)) = true ↔ w ∈ ks := by
  rw [List.any_eq_true]
  constructor
  · rintro ⟨x, hx, h⟩; rw [← of_decide_eq_true h]; exact hx
  · intro h; exact ⟨w, h, decide_eq_true rfl⟩

theorem dkeys_nodup {ks : List Str} {w : Str} (h : ks.Nodup) : (dkeys ks w).Nodup := by
  unfold dkeys
  split
  · exact h
  · rename_i hn
    have : w ∉ ks := fun hm => hn ((any_eq ks w).mpr hm)
    exact List.nodup_append.mpr ⟨h, by simp, fun a ha b hb => by simp at hb; subst hb; rintro rfl; exact this ha⟩
theorem dkeys_len (ks : List Str) (w : Str) : ks.length ≤ (dkeys ks w).length ∧ (dkeys ks w).length ≤ ks.length + 1 := by
  unfold dkeys; split <;> simp

theorem picOk_step {ties : List Int} {j : Nat} {st : Pic} (h : PicOk ties.length j st) (step : Nat) : PicOk ties.length (j + 1) (picStep ties st step) where
  len := by simp only [picStep]; rw [press_len]; exact h.len
  low := fun c hc => by
    simp only [picStep] at hc
    obtain ⟨q, hq, rfl⟩ := mem_getD hc
    rw [press_len] at hq
    rw [press_getD _ (touched_nodup _ _) _ _ hq]
    have := h.low _ (getD_mem hq)
    split <;> (first | lia | omega)
  nd := dkeys_nodup h.nd
  kv := by
    have hkv := h.kv
    simp only [picStep, dkeys]
    split
    · simp [hkv]
    · simp [hkv]
  few := by
    have h1 := h.few
    have := (dkeys_len st.ks (pf (lampVal (press st.cs (touchedOf ties (tz ties.length step)))))).2
    simp only [picStep]; (first | lia | omega)
  short := fun l hl => by
    simp only [picStep] at hl
    split at hl
    · rw [List.mem_iff_getElem] at hl
      obtain ⟨i, hi, rfl⟩ := hl
      rw [List.getElem_zipWith]
      have := h.short _ (List.getElem_mem (by rw [List.length_zipWith] at hi; exact Nat.lt_of_lt_of_le hi (Nat.min_le_right _ _)))
      split
      · simp; exact this
      · (first | lia | omega)
    · rcases List.mem_append.mp hl with hl | hl
      · have := h.short _ hl; (first | lia | omega)
      · simp at hl; subst hl; simp

theorem pic_ok (ties : List Int) : ∀ j, PicOk ties.length j (picAfter ties j)
  | 0 => by
    refine ⟨by simp [picAfter, picStart], fun c hc => ?_, by simp [picAfter, picStart], by simp [picAfter, picStart], by simp [picAfter, picStart], fun l hl => ?_⟩
    · simp [picAfter, picStart] at hc; (first | lia | omega)
    · simp [picAfter, picStart] at hl; subst hl; simp
  | j + 1 => by rw [picAfter_succ]; exact picOk_step (pic_ok ties j) _

theorem lamp_lt (cs : List Nat) : lampVal cs < 2 ^ cs.length := by
  have := nsum_lt 1 (cs.map fun c => (c + 1) % 2) (fun d hd => by obtain ⟨c, _, rfl⟩ := List.mem_map.mp hd; (first | lia | omega))
  rw [List.length_map, Nat.one_mul] at this
  exact this

noncomputable def valsOf : List Str → List (List Int) → Str → List Int
  | x :: ks, l :: vs, w => if x = w then l else valsOf ks vs w
  | _, _, _ => []
theorem dget_ints (w : Str) : ∀ (ks : List Str) (vs : List (List Int)), (dget ks (vs.map PV.ints) w).getD (.list []) = .ints (valsOf ks vs w)
  | [], vs => by cases vs <;> rfl
  | x :: ks, [] => rfl
  | x :: ks, l :: vs => by
    rw [List.map_cons, dget, valsOf]
    split
    · rfl
    · exact dget_ints w ks vs
theorem vals_mem (w : Str) : ∀ (ks : List Str) (vs : List (List Int)), valsOf ks vs w = [] ∨ valsOf ks vs w ∈ vs
  | [], vs => by cases vs <;> exact .inl rfl
  | x :: ks, [] => .inl rfl
  | x :: ks, l :: vs => by
    rw [valsOf]
    split
    · exact .inr (.head _)
    · exact (vals_mem w ks vs).imp id fun h => .tail _ h
theorem vals_not {w : Str} : ∀ {ks : List Str} {vs : List (List Int)}, w ∉ ks → valsOf ks vs w = []
  | [], vs, _ => by cases vs <;> rfl
  | x :: ks, [], _ => rfl
  | x :: ks, l :: vs, h => by
    rw [valsOf, if_neg fun e => h (by rw [e]; exact .head _)]
    exact vals_not fun hm => h (.tail _ hm)
theorem zip_put {w : Str} {y : Int} : ∀ {ks : List Str} {vs : List (List Int)} {l0 : List Int}, ks.Nodup → (w ∈ ks → l0 = valsOf ks vs w) →
    List.zipWith (fun x l => if x = w then PV.ints (l0 ++ [y]) else l) ks (vs.map PV.ints) = (List.zipWith (fun x l => if x = w then l ++ [y] else l) ks vs).map PV.ints
  | [], vs, _, _, _ => by cases vs <;> rfl
  | x :: ks, [], _, _, _ => rfl
  | x :: ks, l :: vs, l0, nd, h => by
    have hp := List.nodup_cons.mp nd
    rw [List.map_cons, List.zipWith_cons_cons, List.zipWith_cons_cons, List.map_cons]
    by_cases e : x = w
    · subst e
      have e0 := h (.head _)
      rw [valsOf, if_pos rfl] at e0
      subst e0
      rw [if_pos rfl, if_pos rfl, zip_put hp.2 fun hm => absurd hm hp.1]
    · rw [if_neg e, if_neg e, zip_put hp.2 fun hm => ?_]
      have := h (.tail _ hm)
      rw [valsOf, if_neg e] at this
      exact this
theorem dput_pic {ks : List Str} {vs : List (List Int)} {w : Str} {y : Int} (nd : ks.Nodup) :
    dput ks (vs.map PV.ints) w (PV.ints (valsOf ks vs w ++ [y])) = (if ks.any (fun x => decide (x = w)) then List.zipWith (fun x l => if x = w then l ++ [y] else l) ks vs else vs ++ [[y]]).map PV.ints := by
  unfold dput
  split
  · exact zip_put nd fun _ => rfl
  · rename_i hn
    rw [vals_not fun hm => hn ((any_eq ks w).mpr hm)]
    simp
end Mine
open PySem PySem.Calls PyProof.Rows PySem.W
set_option Elab.async false
set_option autoImplicit false
set_option linter.unusedVariables false
set_option maxRecDepth 20000
namespace Mine
section
variable {S : Sys} {sc : Scope} {ns : List Str} {base : Heap} {env : Env} {s s' s0 : Shared} {ρ ρ' : Ro} {rt : Nat → Addr} {b : Bool} {d : Nat} {q : Md} {p p1 p2 p' : PV} {mg mb : Str → Option Value}

theorem glue_short {e : List Nat} {ls : List (List Nat)} {m k : Nat} (h : ∀ l ∈ ls, l.length ≤ m) (hk : ls.length ≤ k) : (glue e ls).length ≤ k * (m + e.length) :=
  Nat.le_trans (glue_len e ls m h) (Nat.mul_le_mul_right _ hk)

theorem sent_get {cs touched : List Nat} {i : Nat} (hi : i < touched.length) (h : 0 < cs.getD (touched.getD i 0) 0) :
    ((linesOf cs touched).map dotted)[i]? = some (List.replicate (cs.getD (touched.getD i 0) 0 + 1) 46) := by
  have hn : touched ≠ [] := fun e => by subst e; simp at hi
  unfold linesOf
  rw [if_neg hn, List.map_map, List.getElem?_map, List.getElem?_eq_getElem hi]
  have : touched.getD i 0 = touched[i] := by rw [List.getD_eq_getElem?_getD, List.getElem?_eq_getElem hi]; rfl
  rw [this] at h ⊢
  exact congrArg some (dotted_rep h)

theorem press_take {cs touched : List Nat} {i : Nat} (nd : touched.Nodup) (hi : i < touched.length) (hl : ∀ p ∈ touched, p < cs.length) :
    press cs (touched.take (i + 1)) = (press cs (touched.take i)).set (touched.getD i 0) (cs.getD (touched.getD i 0) 0 + 1) := by
  have e0 : touched.getD i 0 = touched[i] := by rw [List.getD_eq_getElem?_getD, List.getElem?_eq_getElem hi]; rfl
  have hm : touched[i] ∉ touched.take i := by
    intro h
    obtain ⟨k, hk, e⟩ := List.getElem_of_mem h
    rw [List.getElem_take] at e
    rw [List.length_take] at hk
    have := (List.getElem_inj nd).mp e
    (first | lia | omega)
  have h1 := press_getD (touched.take i) (nd.sublist (List.take_sublist _ _)) cs touched[i] (hl _ (List.getElem_mem hi))
  rw [if_neg hm] at h1
  rw [take_snoc hi, e0]
  simp only [press, List.foldl_append, List.foldl_cons, List.foldl_nil] at h1 ⊢
  rw [h1]

theorem pic_step2 {ties : List Int} {en : List Nat} {st : Pic} {jj j pl pr' : Nat} {aF aQ aD : Addr} {fF fQ fD : FuncData} {Φ : Out → Prop} (W : S.Ok mg mb) (B : Bn mg) (TF : TopFn S mg 11 aF fF) (TQ : TopFn S mg 16 aQ fQ) (TD : TopFn S mg 6 aD fD) (mF : mg "pretty_flags" = some (.ref aF)) (mQ : mg "quotedata" = some (.ref aQ)) (mD : mg "_digits2int" = some (.ref aD))
    (he : isEnd en) (hsz : ties.length ≤ 5) (hok : PicOk ties.length jj st) (hj : jj ≤ 31) (hF : ∀ {x : Nat}, x < 32 → CallOk S false d (.ref aF) [.int x] (.str (pf x)))
    (hQ : ∀ ls : List (List Nat), ls ≠ [] → (∀ l ∈ ls, okLine l) → ls.length ≤ 5 → (∀ l ∈ ls, l.length ≤ 40) → CallOk S false d (.ref aQ) [.str (Mine.S (glue en ls))] (.str (Mine.S (glue [13, 10] (ls.map dotted)))))
    (hD : ∀ l : List Nat, (∀ z ∈ l, z < 2) → l.length ≤ 5 → CallOk S false d (.ref aD) [.ints (l.map Int.ofNat), .int ((1 : Nat) : Int)] (.int (dsum 1 (l.map Int.ofNat))))
    (fin : Φ (.next [some (.ints ties, .imm), some (.str (Mine.S en), .imm), some (.strs ((press st.cs (touchedOf ties pl)).map dots), .mut), some (.int (pr' : Int), .imm),
      some (.dict (dkeys st.ks (pf (lampVal (press st.cs (touchedOf ties pl))))) ((if st.ks.any (fun x => decide (x = pf (lampVal (press st.cs (touchedOf ties pl))))) then List.zipWith (fun x l => if x = pf (lampVal (press st.cs (touchedOf ties pl))) then l ++ [(pr' : Int)] else l) st.ks st.vs else st.vs ++ [[(pr' : Int)]]).map PV.ints), .mut),
      some (.int j, .imm), some (.int pl, .imm), some (.ints ((touchedOf ties pl).map Int.ofNat), .imm), some (.strs (((linesOf st.cs (touchedOf ties pl)).map dotted).map Mine.S), .imm), none, some (.str (pf (lampVal (press st.cs (touchedOf ties pl)))), .imm)])) :
    Sx S (stScope (topAt 21)) picNs false d [some (.ints ties, .imm), some (.str (Mine.S en), .imm), some (.strs (st.cs.map dots), .mut), some (.int (pr' : Int), .imm), some (.dict st.ks (st.vs.map PV.ints), .mut), some (.int j, .imm), some (.int pl, .imm), some (.ints ((touchedOf ties pl).map Int.ofNat), .imm), none, none, none] (picLoop.drop 4) Φ := by
  obtain ⟨t, ht⟩ : ∃ t, t = touchedOf ties pl := ⟨_, rfl⟩
  have nd : t.Nodup := ht ▸ touched_nodup ties pl
  have tlt : ∀ p ∈ t, p < st.cs.length := fun p hp => by rw [hok.len]; rw [ht] at hp; exact touched_lt hp
  have tlen : t.length ≤ 5 := by rw [ht]; exact Nat.le_trans (touched_len _ _) hsz
  rw [← ht] at fin ⊢
  have hlow : ∀ p ∈ t, 1 ≤ st.cs.getD p 0 ∧ st.cs.getD p 0 ≤ 32 := fun p hp => by
    have := hok.low _ (getD_mem (tlt p hp)); (first | lia | omega)
  have hl5 : (linesOf st.cs t).length ≤ 5 := by unfold linesOf; split <;> simp [tlen]
  have hl40 : ∀ l ∈ linesOf st.cs t, l.length ≤ 40 := fun l hl => by
    unfold linesOf at hl
    split at hl
    · simp at hl; subst hl; simp
    · obtain ⟨p, hp, rfl⟩ := List.mem_map.mp hl
      have := (hlow p hp).2
      unfold rowOf; rw [List.length_replicate]; (first | lia | omega)
  have hd40 : ∀ l ∈ (linesOf st.cs t).map dotted, l.length ≤ 41 := fun l hl => by
    obtain ⟨l', hl', rfl⟩ := List.mem_map.mp hl
    have := hl40 l' hl'
    unfold dotted; split <;> simp <;> (first | lia | omega)
  -- sent
  have hen : en.length ≤ 2 := by rcases he with h | h | h <;> subst h <;> decide
  have hg1 : (glue en (linesOf st.cs t)).length ≤ 5 * (40 + 2) := Nat.le_trans (glue_short hl40 hl5) (by (first | lia | omega))
  have hg3 : (glue [13, 10] ((linesOf st.cs t).map dotted)).length ≤ 5 * (41 + 2) := Nat.le_trans (glue_short hd40 (by rw [List.length_map]; exact hl5)) (by simp)
  have hsplit : Txt.split (Mine.S (glue [13, 10] ((linesOf st.cs t).map dotted))) "\r\n" = ((linesOf st.cs t).map dotted).map Mine.S := by
    refine split_glue (c := 13) (se := [10]) (by decide) _ (by simp [lines_ne]) fun l hl => ?_
    obtain ⟨l', hl', rfl⟩ := List.mem_map.mp hl
    exact (ok_dotted (lines_ok _ _ _ hl')).2
  have hrows : ((t.map (rowOf st.cs)).map Mine.S) = t.map fun p => dots (st.cs.getD p 0) := by rw [List.map_map]; rfl
  have hjoin : Txt.join (Mine.S en) (t.map fun p => dots (st.cs.getD p 0)) = Mine.S (glue en (linesOf st.cs t)) := by rw [glue_lines, ← join_glue, hrows]
  have hjl : ((t.map fun p => dots (st.cs.getD p 0)).map (·.length)).sum + (t.map fun p => dots (st.cs.getD p 0)).length * (Mine.S en).length ≤ 16777216 := by
    have h1 : ∀ l : List Nat, (∀ p ∈ l, st.cs.getD p 0 ≤ 32) → ((l.map fun p => dots (st.cs.getD p 0)).map (·.length)).sum ≤ l.length * 32 := by
      intro l
      induction l with
      | nil => intro _; simp
      | cons p l ih =>
        intro h
        have h2 := ih fun x hx => h x (.tail _ hx)
        have h3 := h p (.head _)
        have h4 : (dots (st.cs.getD p 0)).length = st.cs.getD p 0 := by show (List.replicate _ 46).toArray.size = _; simp
        simp only [List.map_cons, List.sum_cons, List.length_cons, h4]
        (first | lia | omega)
    have h2 := h1 t fun p hp => (hlow p hp).2
    have h3 : (Mine.S en).length = en.length := rfl
    rw [List.length_map, h3]
    have h4 : t.length * en.length ≤ 5 * 2 := Nat.mul_le_mul tlen hen
    (first | lia | omega)
  refine Sx.cons (S1.assign (p := .strs (((linesOf st.cs t).map dotted).map Mine.S)) 8 rfl
    (Ev.meth (q0 := .R) (q1 := .R) (p1 := .str (Mine.S (glue [13, 10] ((linesOf st.cs t).map dotted)))) PySem.F.plainAttrs_str PySem.F.slot_str_split PySem.F.type_str_split
      (Ev.call (q1 := .R) (.glob W rfl mQ) (TQ.callee W) (Evs.cons (Ev.meth (q0 := .R) (q1 := .R) (p1 := .str (Mine.S en)) PySem.F.plainAttrs_str PySem.F.slot_str_join PySem.F.type_str_join (Ev.var 1 rfl rfl rfl) (fun s v fp r => by (first | obtain ⟨_, rfl, rfl⟩ := r.inv | cases r); exact ⟨rfl, fun a h => by cases h⟩)
        (Evs.cons (p := .strs (t.map fun p => dots (st.cs.getD p 0))) (Ev.cast (Ev.compI (l := t.map Int.ofNat) (t := fun _ => true) (f := fun i => .str (dots (st.cs.getD i.toNat 0))) [2] ⟨by decide, rfl, rfl, rfl, rfl, rfl, rfl⟩ (It.list (Ev.var 7 rfl rfl rfl) (atoms_ints _)) (by simp only [sizeLine, List.length_map]; (first | lia | omega)) (fun i hi => .nil) (fun i hi _ => ?_) (fun i hi _ => rfl)) ?_) Evs.nil) ((c_join hjl).to (congrArg PV.str hjoin))) Evs.nil)
        (hQ _ (lines_ne _ _) (lines_ok _ _) hl5 hl40))
      (fun s v fp r => by (first | obtain ⟨_, rfl, rfl⟩ := r.inv | cases r); exact ⟨rfl, fun a h => by cases h⟩) (Evs.cons Ev.cstr Evs.nil) (c_split rfl hsplit ?_ ?_)) ?_ (by decide) (by decide))
  · obtain ⟨p, hp, rfl⟩ := List.mem_map.mp hi
    refine Ev.idxA (q0 := .R) (q1 := .R) (k := ((p : Nat) : Int)) (Ev.var 1 rfl rfl rfl) (Ev.var 0 rfl rfl rfl) (by (first | lia | omega)) ?_ ?_ rfl
    · have := tlt p hp; have := hok.len; (first | lia | omega)
    · rw [Int.toNat_natCast, List.getElem?_map, List.getElem?_map, List.getElem?_eq_getElem (tlt p hp)]
      show some (PV.str (dots (st.cs[p]'(tlt p hp)))) = some (PV.str (dots (st.cs.getD p 0)))
      rw [List.getD_eq_getElem?_getD, List.getElem?_eq_getElem (tlt p hp)]; rfl
  · rw [List.filter_eq_self.mpr fun _ _ => rfl, List.map_map, PV.strs, List.map_map]
    rfl
  · show (glue [13, 10] ((linesOf st.cs t).map dotted)).toArray.size ≤ _
    rw [List.size_toArray]; simp only [sizeLine]; (first | lia | omega)
  · simp only [List.length_map, sizeLine]; (first | lia | omega)
  -- the rows
  refine Sx.cons (S1.for 9 rfl (It.rangeN (n := t.length) (q1 := .R) (.blt W rfl B.range rfl (by decide)) (Ev.call (q1 := .R) (.blt W rfl B.len rfl (by decide)) (.blt _) (Evs.cons (Ev.var 7 rfl rfl rfl) Evs.nil) ((c_lenList (by simp only [List.length_map]; (first | lia | omega))).to (by simp only [List.length_map]))) (by (first | lia | omega)))
    (fun i => [some (.ints ties, .imm), some (.str (Mine.S en), .imm), some (.strs ((press st.cs (t.take i)).map dots), .mut), some (.int (pr' : Int), .imm), some (.dict st.ks (st.vs.map PV.ints), .mut), some (.int j, .imm), some (.int pl, .imm), some (.ints (t.map Int.ofNat), .imm), some (.strs (((linesOf st.cs t).map dotted).map Mine.S), .imm), none, none]) ?_ ?_ ?_ (by decide) (by decide))
  · exact Le.refl
  · intro i p hi
    obtain ⟨hi', rfl⟩ := range_get hi
    have hpm : t.getD i 0 ∈ t := getD_mem hi'
    have hp2 := hlow _ hpm
    refine Sx.cons (S1.putItem (q1 := .R) (q2 := .R) (p := .str (dots (st.cs.getD (t.getD i 0) 0 + 1))) (k := ((t.getD i 0 : Nat) : Int)) 2 rfl rfl (Ev.idxA (q0 := .R) (q1 := .R) (k := (i : Int)) (Ev.var 8 rfl rfl rfl) (Ev.var 9 rfl rfl rfl) (by (first | lia | omega)) (by (first | lia | omega)) ?_ rfl) (Ev.idxA (q0 := .R) (q1 := .R) (k := (i : Int)) (Ev.var 7 rfl rfl rfl) (Ev.var 9 rfl rfl rfl) (by (first | lia | omega)) (by (first | lia | omega)) ?_ rfl) rfl (atoms_strs _) (by (first | lia | omega)) ?_ ?_ ?_)
    · rw [Int.toNat_natCast, List.getElem?_map, List.getElem?_map, sent_get hi' (by (first | lia | omega))]; rfl
    · rw [Int.toNat_natCast, List.getElem?_map, List.getElem?_map, List.getElem?_eq_getElem hi', List.getD_eq_getElem?_getD, List.getElem?_eq_getElem hi']; rfl
    · have := tlt _ hpm
      simp only [List.length_map, press_len]; (first | lia | omega)
    · have := tlt _ hpm
      have := hok.len; (first | lia | omega)
    · refine Sx.nil ?_
      show Le [some (.ints ties, .imm), some (.str (Mine.S en), .imm), some (.strs ((press st.cs (t.take (i + 1))).map dots), .mut), some (.int (pr' : Int), .imm), some (.dict st.ks (st.vs.map PV.ints), .mut), some (.int j, .imm), some (.int pl, .imm), some (.ints (t.map Int.ofNat), .imm), some (.strs (((linesOf st.cs t).map dotted).map Mine.S), .imm), none, none] _
      rw [press_take nd hi' tlt, List.map_set, PV.strs, List.map_set]
      exact (Le.same (Le.same (Le.same (Le.same (Le.same (Le.same (Le.same (Le.same (Le.same (Le.drop (Le.same Le.nil)))))))))))
  refine Sx.nil ?_
  have el : (List.map (fun (i : Nat) => PV.int (i : Int)) (List.range t.length)).length = t.length := by rw [List.length_map, List.length_range]
  rw [el]
  simp only [List.take_length]
  obtain ⟨cs, hcs⟩ : ∃ cs, cs = press st.cs t := ⟨_, rfl⟩
  rw [← hcs] at fin ⊢
  have hcl : cs.length ≤ 5 := by rw [hcs, press_len, hok.len]; exact hsz
  have hlamp : lampVal cs < 32 := Nat.lt_of_lt_of_le (lamp_lt cs) (Nat.pow_le_pow_right (by decide) hcl)
  have hcs33 : ∀ c ∈ cs, c ≤ 2 ^ 20 := fun c hc => by
    obtain ⟨q, hq, rfl⟩ := mem_getD hc
    rw [hcs, press_len] at hq
    rw [hcs, press_getD t nd st.cs q hq]
    have := (hok.low _ (getD_mem hq)).2
    split <;> (first | lia | omega)
  -- words
  refine Sx.cons (S1.assign (p := .str (pf (lampVal cs))) 10 rfl
    (Ev.call (q1 := .R) (.glob W rfl mF) (TF.callee W) (Evs.cons (p := .int (lampVal cs : Int)) (Ev.call (q1 := .R) (ps := [.ints ((cs.map fun c => (c + 1) % 2).map Int.ofNat), .int ((1 : Nat) : Int)]) (.glob W rfl mD) (TD.callee W)
      (Evs.cons (Ev.cast (Ev.frozen 2 rfl (by intro h; cases h) (Ev.compS (l := cs.map dots) (t := fun _ => true) (f := fun x => .int (((x.length + 1) % 2 : Nat) : Int)) [] ⟨by decide, rfl, rfl, rfl, rfl, rfl, rfl⟩ (It.list (Ev.var 2 rfl rfl rfl) (atoms_strs _)) (by simp only [sizeLine, List.length_map]; (first | lia | omega)) (fun i hi => .nil) (fun i hi _ => ?_) (fun i hi _ => rfl))) ?_) (Evs.cons Ev.cint Evs.nil))
      ((hD (cs.map fun c => (c + 1) % 2) ?_ (by rw [List.length_map]; exact hcl)).to ?_)) Evs.nil) (hF hlamp)) ?_ (by decide) (by decide))
  · obtain ⟨c, hc, rfl⟩ := List.mem_map.mp hi
    have h33 := hcs33 c hc
    have hlen : (dots c).length = c := by show (List.replicate c 46).toArray.size = _; simp
    refine Ev.op2 (q1 := .R) (q2 := .R) (Ev.op2 (q1 := .R) (q2 := .R) (Ev.call (q1 := .R) (.blt W rfl B.len rfl (by decide)) (.blt _) (Evs.cons (Ev.var 0 rfl rfl rfl) Evs.nil) (c_lenStr (by rw [hlen]; (first | lia | omega)))) Ev.cint o_add) Ev.cint ((o_mod (by decide)).to ?_)
    rw [Int.fmod_eq_emod_of_nonneg _ (by decide)]
    (first | lia | omega)
  · rw [List.filter_eq_self.mpr fun _ _ => rfl, List.map_map, PV.ints, List.map_map, List.map_map]
    congr 1
    apply List.map_congr_left
    intro c hc
    have hlen : (dots c).length = c := by show (List.replicate c 46).toArray.size = _; simp
    simp only [Function.comp, hlen]; rfl
  · intro z hz
    obtain ⟨c, _, rfl⟩ := List.mem_map.mp hz
    (first | lia | omega)
  · rw [← nsum_dsum]; rfl
  -- pictures[words]
  have hvl : (valsOf st.ks st.vs (pf (lampVal cs))).length ≤ 32 := by
    rcases vals_mem (pf (lampVal cs)) st.ks st.vs with h | h
    · rw [h]; simp
    · have := hok.short _ h; (first | lia | omega)
  have hks := hok.few
  refine Sx.cons (S1.dput (q2 := .R) (k := pf (lampVal cs)) (p := .ints (valsOf st.ks st.vs (pf (lampVal cs)) ++ [(pr' : Int)])) 4 rfl rfl
    (Ev.cast (Ev.op2 (q1 := .R) (q2 := .R) (Ev.cast (Ev.dget2 (q0 := .R) (q1 := .R) (Ev.var 4 rfl rfl rfl) (Evs.cons (Ev.var 10 rfl rfl rfl) (Evs.cons (Ev.list Evs.nil) Evs.nil))) (dget_ints _ _ _)) (Ev.list (Evs.cons (Ev.var 3 rfl rfl rfl) Evs.nil) (by simp [sizeLine])) (o_ladd (atoms_ints _) rfl (by simp only [List.length_map, List.length_cons, List.length_nil, sizeLine]; (first | lia | omega)))) (by simp [PV.ints])) (Ev.var 10 rfl rfl rfl) ?_ (by simp only [sizeLine]; (first | lia | omega)) ?_)
  · rw [dput_pic hok.nd]
    show (List.map PV.ints _).all _ = true
    rw [List.all_map, List.all_eq_true]
    intro l _
    exact atoms_ints l
  · rw [dput_pic hok.nd]
    refine Sx.nil ?_
    exact fin
end
end Mine
open PySem PySem.Calls PyProof.Rows PySem.W
set_option Elab.async false
set_option autoImplicit false
set_option linter.unusedVariables false
set_option maxRecDepth 20000
namespace Mine
section
variable {S : Sys} {sc : Scope} {ns : List Str} {base : Heap} {env : Env} {s s' s0 : Shared} {ρ ρ' : Ro} {rt : Nat → Addr} {b : Bool} {d : Nat} {q : Md} {p p1 p2 p' : PV} {mg mb : Str → Option Value}

theorem pics_ok {a : Addr} {fd : FuncData} {ties : List Int} {en : List Nat} {aF aQ aD : Addr} {fF fQ fD : FuncData} (W : S.Ok mg mb) (B : Bn mg) (T : TopFn S mg 21 a fd) (TF : TopFn S mg 11 aF fF) (TQ : TopFn S mg 16 aQ fQ) (TD : TopFn S mg 6 aD fD) (mF : mg "pretty_flags" = some (.ref aF)) (mQ : mg "quotedata" = some (.ref aQ)) (mD : mg "_digits2int" = some (.ref aD))
    (he : isEnd en) (hsz : ties.length ≤ 5) (hF : ∀ {b : Bool} {x : Nat}, x < 32 → CallOk S b d (.ref aF) [.int x] (.str (pf x)))
    (hQ : ∀ ls : List (List Nat), ls ≠ [] → (∀ l ∈ ls, okLine l) → ls.length ≤ 5 → (∀ l ∈ ls, l.length ≤ 40) → CallOk S false d (.ref aQ) [.str (Mine.S (glue en ls))] (.str (Mine.S (glue [13, 10] (ls.map dotted)))))
    (hD : ∀ l : List Nat, (∀ z ∈ l, z < 2) → l.length ≤ 5 → CallOk S false d (.ref aD) [.ints (l.map Int.ofNat), .int ((1 : Nat) : Int)] (.int (dsum 1 (l.map Int.ofNat)))) :
    CallOk S false (d + 1) (.ref a) [.ints ties, .str (Mine.S en)] (.dict (picAfter ties (2 ^ ties.length - 1)).ks ((picAfter ties (2 ^ ties.length - 1)).vs.map PV.ints)) := by
  refine top_ok (params := ["ties", "end"]) (rest := ["rows", "pressed", "pictures", "step", "place", "touched", "sent", "k", "words"]) W T
    (pic_body W B TF TQ TD mF mQ mD he hsz hF fun j hj => ?_) rfl (by decide) (by decide) (vec2 fun _ _ fd => rfl) rfl rfl rfl
  have h2 : (2 : Nat) ^ ties.length ≤ 32 := Nat.pow_le_pow_right (by decide) hsz
  refine pic_step1 (cs := (picAfter ties j).cs) (pr := (picAfter ties j).pressed) (ks := (picAfter ties j).ks) (vs := (picAfter ties j).vs) W B hsz (by (first | lia | omega)) (by (first | lia | omega)) ?_
  refine pic_step2 (st := picAfter ties j) (jj := j) W B TF TQ TD mF mQ mD he hsz (pic_ok ties j) (by (first | lia | omega)) hF hQ hD ?_
  show Le (picJ ties (Mine.S en) (j + 1)) _
  unfold picJ
  rw [picAfter_succ]
  unfold picStep
  exact (Le.same (Le.same (Le.same (Le.same (Le.same (Le.drop (Le.drop (Le.drop (Le.drop (Le.drop (Le.drop Le.nil)))))))))))
end
end Mine
open PySem PySem.Calls PyProof.Rows PySem.W
set_option Elab.async false
set_option autoImplicit false
set_option linter.unusedVariables false
set_option maxRecDepth 20000
namespace Mine

theorem CallOk.mono {S : Sys} {b : Bool} {d d' : Nat} {fv : Value} {ps : List PV} {p : PV} (h : CallOk S b d fv ps p) (hd : d ≤ d') : CallOk S b d' fv ps p :=
  fun A s vs fp Q R G r hQ => h A s vs fp Q (R.mono hd) G r hQ

theorem pow5 {n : Nat} (h : n ≤ 5) : (2 : Nat) ^ n ≤ 32 := Nat.pow_le_pow_right (n := 2) (by decide) h

noncomputable def litOf (y : Nat) : List Str := if y = 0 then ["0x0"] else namesTo y (y.log2 + 1)
theorem split_pf : ∀ y, y < 32 → Txt.split (pf y) ", " = litOf y := by
  have key : ∀ y, y < 32 → pf y = Mine.S (glue [44, 32] ((litOf y).map fun x => x.cps.toList)) ∧ ∀ l ∈ (litOf y).map (fun x => x.cps.toList), 44 ∉ l := by decide +kernel
  intro y hy
  obtain ⟨h1, h2⟩ := key y hy
  have h0 : (litOf y).map (fun x => x.cps.toList) ≠ [] := by
    intro h
    have h3 := List.map_eq_nil_iff.mp h
    have : ∀ y, y < 32 → litOf y ≠ [] := by decide +kernel
    exact this y hy h3
  rw [h1]
  have := split_glue (c := 44) (se := [32]) (by decide) _ h0 h2
  rw [show (", " : Str) = Mine.S [44, 32] from rfl, this, List.map_map]
  have e : ∀ x : Str, (Mine.S ∘ fun x : Str => x.cps.toList) x = x := fun x => S_toList x
  rw [List.map_congr_left (fun x _ => e x), List.map_id']

noncomputable def picEnd (ties : List Int) : Pic := picAfter ties (2 ^ ties.length - 1)
noncomputable def underOf (ties : List Int) (w : Str) : List Int := valsOf (picEnd ties).ks (picEnd ties).vs w
noncomputable def placesOf (n : Nat) : List Str := (List.range n).map fun p => pf (2 ^ p)
noncomputable def loopTest (ties : List Int) (p : Nat) : Bool := Builtin.bitAnd ((ties.getD p 0).fdiv (2 ^ p)) 1 != 0
noncomputable def loopSum (ties : List Int) : Int := (((List.range ties.length).filter (loopTest ties)).map fun p => (2 : Int) ^ p).sum

structure Law1 (ties : List Int) : Prop where
  keys : ∀ w ∈ (picEnd ties).ks, ∃ y, y < 32 ∧ w = pf y
  idleIn : pf 0 ∈ (picEnd ties).ks
  idle0 : (underOf ties (pf 0)).length ≠ 0
  idle1 : (underOf ties (pf 0)).length ≤ 32
  cnt : 2 ^ ties.length / (underOf ties (pf 0)).length = (picEnd ties).ks.length
  rest : 2 ^ ties.length % (underOf ties (pf 0)).length = 0
  rank : (picEnd ties).ks.length = 2 ^ (basisOf ties).length
  each : ∀ w ∈ (picEnd ties).ks, (underOf ties w).length = (underOf ties (pf 0)).length
  even : ∀ y, y < 32 → pf y ∈ (picEnd ties).ks → ∀ one ∈ underOf ties (pf 0), (sharedOf one (litOf y) (placesOf ties.length)).length % 2 = 0
  loops : ∃ y : Nat, y < 32 ∧ loopSum ties = (y : Int) ∧ pf y ∈ (picEnd ties).ks ∧ ∀ one ∈ underOf ties (pf y), (sharedOf one (litOf y) (placesOf ties.length)).length % 2 = (basisOf ties).length % 2

theorem dget_some {w : Str} : ∀ {ks : List Str} {vs : List (List Int)}, ks.length = vs.length → w ∈ ks → dget ks (vs.map PV.ints) w = some (.ints (valsOf ks vs w))
  | [], _, _, h => by cases h
  | x :: ks, [], h, _ => by cases h
  | x :: ks, l :: vs, e, h => by
    rw [List.map_cons, dget, valsOf]
    by_cases hx : x = w
    · rw [if_pos hx, if_pos hx]
    · rw [if_neg hx, if_neg hx]
      exact dget_some (by simpa using e) ((List.mem_cons.mp h).resolve_left (Ne.symm hx))

section
variable {S : Sys} {sc : Scope} {ns : List Str} {base : Heap} {env : Env} {s s' s0 : Shared} {ρ ρ' : Ro} {rt : Nat → Addr} {b : Bool} {d : Nat} {q : Md} {p p1 p2 p' : PV} {mg mb : Str → Option Value}

noncomputable abbrev lawNs : List Str := ["script", "numbers", "size", "ties", "pictures", "places", "idle", "rank", "words", "loops"]
noncomputable def endOf (k : Nat) : List Nat := [[10], [13], [13, 10]].getD k []
theorem endOf_is : ∀ k, k < 3 → isEnd (endOf k) := by
  intro k hk
  have : k = 0 ∨ k = 1 ∨ k = 2 := by (first | lia | omega)
  rcases this with h | h | h <;> subst h
  · exact .inl rfl
  · exact .inr (.inl rfl)
  · exact .inr (.inr rfl)

theorem law_body {vs : List Int} {nums ties : List Int} {n : Nat} {aN aT aP aF aR aI aH : Addr} {fN fT fP fF fR fI fH : FuncData} (W : S.Ok mg mb) (B : Bn mg)
    (TN : TopFn S mg 18 aN fN) (TT : TopFn S mg 19 aT fT) (TP : TopFn S mg 21 aP fP) (TF : TopFn S mg 11 aF fF) (TR : TopFn S mg 20 aR fR) (TI : TopFn S mg 8 aI fI) (TH : TopFn S mg 22 aH fH)
    (mN : mg "_law_numbers" = some (.ref aN)) (mT : mg "_law_ties" = some (.ref aT)) (mP : mg "_law_pictures" = some (.ref aP)) (mF : mg "pretty_flags" = some (.ref aF)) (mR : mg "_law_rank" = some (.ref aR)) (mI : mg "int_divmod" = some (.ref aI)) (mH : mg "_law_shared" = some (.ref aH))
    (hv : vs.length < 2 ^ 20) (hnl : nums.length = 6) (htl : ties.length = n) (hn : n = if vs.length < 4 then 4 else 5) (L : Law1 ties)
    (cN : CallOk S false d (.ref aN) [.ints vs, .ints [1, 3, 6, 4, 25, 0]] (.ints nums))
    (cT : CallOk S false d (.ref aT) [.ints nums, .int n] (.ints ties))
    (cP : ∀ en, isEnd en → CallOk S false d (.ref aP) [.ints ties, .str (Mine.S en)] (.dict (picEnd ties).ks ((picEnd ties).vs.map PV.ints)))
    (cF : ∀ {b : Bool} {x : Nat}, x < 32 → CallOk S b d (.ref aF) [.int x] (.str (pf x)))
    (cR : CallOk S false d (.ref aR) [.ints ties] (.int (basisOf ties).length))
    (cI : ∀ {x y : Nat}, x ≤ 32 → 0 < y → y ≤ 32 → CallOk S false d (.ref aI) [.int x, .int y] (.tup [.int ((x / y : Nat) : Int), .int ((x % y : Nat) : Int)]))
    (cH : ∀ {b : Bool} {chosen : Int} {y : Nat}, y < 32 → CallOk S b d (.ref aH) [.int chosen, .str (pf y), .strs (placesOf n)] (.int (sharedOf chosen (litOf y) (placesOf n)).length)) :
    Sx S (stScope (topAt 23)) lawNs false d [some (.ints vs, .imm), none, none, none, none, none, none, none, none, none] (stBody (topAt 23)) (fun o => o = .ret (.bool true)) := by
  have hn5 : n ≤ 5 := by rw [hn]; split <;> (first | lia | omega)
  refine Sx.cons (S1.assign (p := .ints nums) 1 rfl (Ev.call (q1 := .R) (.glob W rfl mN) (TN.callee W) (Evs.cons (Ev.var 0 rfl rfl rfl) (Evs.cons (p := .ints [1, 3, 6, 4, 25, 0]) (Ev.list (Evs.cons Ev.cint (Evs.cons Ev.cint (Evs.cons Ev.cint (Evs.cons Ev.cint (Evs.cons Ev.cint (Evs.cons Ev.cint Evs.nil))))))) Evs.nil)) cN) ?_ (by decide) (by decide))
  refine Sx.cons (S1.assign (p := .int n) 2 rfl (Ev.ite (c := decide ((vs.length : Int) < 4)) (Tr.cmp (q1 := .R) (q2 := .R) (Ev.call (q1 := .R) (.blt W rfl B.len rfl (by decide)) (.blt _) (Evs.cons (Ev.var 0 rfl rfl rfl) Evs.nil) ((c_lenList (by rw [List.length_map]; (first | lia | omega))).to (p' := .int (vs.length : Nat)) (by rw [List.length_map]))) Ev.cint o_lt) (fun h => ?_) (fun h => ?_)) ?_ (by decide) (by decide))
  · have h4 : vs.length < 4 := by have := of_decide_eq_true h; (first | lia | omega)
    rw [if_pos h4] at hn; subst hn; exact Ev.cint
  · have h4 : ¬ vs.length < 4 := by have := of_decide_eq_false h; (first | lia | omega)
    rw [if_neg h4] at hn; subst hn; exact Ev.cint
  refine Sx.cons (S1.assign (p := .ints ties) 3 rfl (Ev.call (q1 := .R) (.glob W rfl mT) (TT.callee W) (Evs.cons (Ev.var 1 rfl rfl rfl) (Evs.cons (Ev.var 2 rfl rfl rfl) Evs.nil)) cT) ?_ (by decide) (by decide))
  obtain ⟨k, hk⟩ : ∃ k : Nat, (nums.getD 5 0).fmod 3 = (k : Int) ∧ k < 3 := by
    have h1 : (0 : Int) ≤ (nums.getD 5 0).fmod 3 := Int.fmod_nonneg_of_pos _ (by decide)
    have h2 : (nums.getD 5 0).fmod 3 < 3 := Int.fmod_lt_of_pos _ (by decide)
    exact ⟨((nums.getD 5 0).fmod 3).toNat, by (first | lia | omega), by (first | lia | omega)⟩
  obtain ⟨ks, hks⟩ : ∃ ks, ks = (picEnd ties).ks := ⟨_, rfl⟩
  obtain ⟨vv, hvv⟩ : ∃ vv, vv = (picEnd ties).vs := ⟨_, rfl⟩
  have hkv : ks.length = vv.length := by rw [hks, hvv]; exact (pic_ok ties _).kv
  have hkl : ks.length ≤ 32 := by
    rw [hks]
    have h1 := (pic_ok ties (2 ^ ties.length - 1)).few
    have h2 : (2 : Nat) ^ ties.length ≤ 32 := pow5 (by (first | lia | omega))
    have h3 : 0 < (2 : Nat) ^ ties.length := Nat.two_pow_pos _
    unfold picEnd; (first | lia | omega)
  have gets : ∀ w, w ∈ ks → dget ks (vv.map PV.ints) w = some (.ints (underOf ties w)) := fun w h => by rw [dget_some hkv h, hks, hvv]; rfl
  refine Sx.cons (S1.assign (p := .dict ks (vv.map PV.ints)) 4 rfl (Ev.call (q1 := .R) (.glob W rfl mP) (TP.callee W) (Evs.cons (Ev.var 3 rfl rfl rfl) (Evs.cons (p := .str (Mine.S (endOf k))) (Ev.idxA (q0 := .R) (q1 := .R) (k := (nums.getD 5 0).fmod 3) (Ev.list (Evs.cons Ev.cstr (Evs.cons Ev.cstr (Evs.cons Ev.cstr Evs.nil)))) (Ev.op2 (q1 := .R) (q2 := .R) (Ev.idxA (q0 := .R) (q1 := .R) (k := 5) (Ev.var 1 rfl rfl rfl) Ev.cint (by decide) (by decide) (get_ints (k := 5) (by (first | lia | omega))) rfl) Ev.cint (o_mod (by decide))) (by (first | lia | omega)) (by (first | lia | omega)) ?_ rfl) Evs.nil)) ?_) ?_ (by decide) (by decide))
  · rw [hk.1, Int.toNat_natCast]
    have : k = 0 ∨ k = 1 ∨ k = 2 := by (first | lia | omega)
    rcases this with h | h | h <;> subst h <;> rfl
  · rw [hks, hvv]; exact cP _ (endOf_is k hk.2)
  have epl : PV.list (((List.range n).filter fun _ => true).map fun p => PV.str (pf (2 ^ p))) = .strs (placesOf n) := by
    rw [List.filter_eq_self.mpr fun _ _ => rfl, placesOf, PV.strs, List.map_map]; rfl
  refine Sx.cons (S1.assign (p := .strs (placesOf n)) 5 rfl (Ev.cast (Ev.compR (n := n) (t := fun _ => true) (f := fun p => .str (pf (2 ^ p))) [] ⟨by decide, rfl, rfl, rfl, rfl, rfl, rfl⟩ (It.rangeN (q1 := .R) (.blt W rfl B.range rfl (by decide)) (Ev.var 2 rfl rfl rfl) (by (first | lia | omega))) (by simp only [sizeLine]; (first | lia | omega)) (fun p hp => .nil) (fun p hp _ => ?_) (fun p _ _ => rfl)) epl) ?_ (by decide) (by decide) (fun env h => swaps_cell (h _ rfl (by decide))))
  · refine Ev.call (q1 := .R) (.glob W rfl mF) (TF.callee W) (Evs.cons (p := .int ((2 ^ p : Nat) : Int)) (Ev.op2 (q1 := .R) (q2 := .R) Ev.cint (Ev.var 0 rfl rfl rfl) ((o_pow2 (by (first | lia | omega))).to (by rw [Int.natCast_pow]; rfl))) Evs.nil) (cF ?_)
    exact Nat.lt_of_lt_of_le (Nat.pow_lt_pow_right (by decide) hp) (pow5 hn5)
  have i0 := L.idle0
  have i1 := L.idle1
  obtain ⟨idle, hidle⟩ : ∃ l, l = underOf ties (pf 0) := ⟨_, rfl⟩
  have h0in : pf 0 ∈ ks := hks ▸ L.idleIn
  have g0 := gets _ h0in
  rw [← hidle] at i0 i1 g0
  refine Sx.cons (S1.assign (p := .ints idle) 6 rfl (Ev.ditem (q1 := .R) (Ev.var 4 rfl rfl rfl) (Ev.call (q1 := .R) (.glob W rfl mF) (TF.callee W) (Evs.cons Ev.cint Evs.nil) (cF (x := 0) (by decide))) g0) ?_ (by decide) (by decide))
  obtain ⟨rk, hrk⟩ : ∃ rk, rk = (basisOf ties).length := ⟨_, rfl⟩
  have hrk5 : rk ≤ 5 := by
    have := basis_len ties []
    simp at this; rw [hrk]; unfold basisOf; (first | lia | omega)
  refine Sx.cons (S1.assign (p := .int rk) 7 rfl (Ev.call (q1 := .R) (.glob W rfl mR) (TR.callee W) (Evs.cons (Ev.var 3 rfl rfl rfl) Evs.nil) (by rw [hrk]; exact cR)) ?_ (by decide) (by decide))
  have hlenI : ∀ {ρ : Ro} {sc : Scope} {ns : List Str} {q : Md} {pos np : Pos} {e : Expr} {l : List Int}, sc.names.lookup ("len" : Str) = some .globalImplicit → Ev S sc ns false d .R ρ e (.ints l) → l.length ≤ 2 ^ 20 → (∀ env, starEach [e] env = (false, eval e env) :: starEach [] env) → (∀ env, (backTo pos (starEach [e] env)).any (·.1) = false) →
      Ev S sc ns false d q ρ (.Call (.Name "len" np) [e] [] pos) (.int l.length) := fun hsc he hl h1 h2 =>
    Ev.call (q1 := .R) (.blt W hsc B.len rfl (by decide)) (.blt _) (Evs.cons he Evs.nil (h1)) ((c_lenList (by rw [List.length_map]; (first | lia | omega))).to (by rw [List.length_map])) (by decide) h1 h2
  have h2n : (2 : Nat) ^ n ≤ 32 := pow5 hn5
  have t1 : (!decide (((2 ^ n / idle.length : Nat) : Int) = (ks.length : Int) ∧ ((2 ^ n % idle.length : Nat) : Int) = 0)) = false := by
    have c1 := L.cnt
    have c2 := L.rest
    rw [htl, ← hidle] at c1 c2
    rw [← hks] at c1
    rw [c1, c2]; simp
  have t2 : ((ks.length : Int) != 2 ^ rk) = false := by
    have c1 := L.rank
    rw [← hks, ← hrk] at c1
    rw [c1, Int.natCast_pow]
    simp
  refine Sx.cons (S1.if (c := false) (Tr.cast (t := false || false) (Tr.or2
    (Tr.cast (Tr.cmp (q1 := .R) (q2 := .R) (p1 := .tup [.int ((2 ^ n / idle.length : Nat) : Int), .int ((2 ^ n % idle.length : Nat) : Int)]) (p2 := .tup [.int (ks.length : Int), .int 0])
      (Ev.call (q1 := .R) (.glob W rfl mI) (TI.callee W) (Evs.cons (p := .int ((2 ^ n : Nat) : Int)) (Ev.op2 (q1 := .R) (q2 := .R) Ev.cint (Ev.var 2 rfl rfl rfl) ((o_pow2 (by (first | lia | omega))).to (by rw [Int.natCast_pow]; rfl))) (Evs.cons (hlenI rfl (Ev.var 6 rfl rfl rfl) (by (first | lia | omega)) (by intro _; rfl) (by intro _; rfl)) Evs.nil)) (cI h2n (by (first | lia | omega)) (by (first | lia | omega))))
      (Ev.tup (Evs.cons (Ev.call (q1 := .R) (.blt W rfl B.len rfl (by decide)) (.blt _) (Evs.cons (Ev.var 4 rfl rfl rfl) Evs.nil) (c_lenDict (by (first | lia | omega)))) (Evs.cons Ev.cint Evs.nil)) (by simp [sizeLine])) o_tne2) t1)
    (fun _ => Tr.cast (Tr.cmp (q1 := .R) (q2 := .R) (Ev.call (q1 := .R) (.blt W rfl B.len rfl (by decide)) (.blt _) (Evs.cons (Ev.var 4 rfl rfl rfl) Evs.nil) (c_lenDict (by (first | lia | omega)))) (Ev.op2 (q1 := .R) (q2 := .R) Ev.cint (Ev.var 7 rfl rfl rfl) (o_pow2 (by (first | lia | omega)))) o_ne) t2)) rfl) (fun h => by cases h) (fun _ => Sx.nil ?_))
  -- the pictures, one by one
  refine Sx.cons (S1.for 8 rfl (It.dict (Ev.var 4 rfl rfl rfl)) (fun _ => [some (.ints vs, .imm), some (.ints nums, .imm), some (.int n, .imm), some (.ints ties, .imm), some (.dict ks (vv.map PV.ints), .imm), some (.strs (placesOf n), .imm), some (.ints idle, .imm), some (.int rk, .imm), none, none]) Le.refl ?_ ?_ (by decide) (by decide))
  · intro j p hj
    obtain ⟨hj', rfl⟩ : ∃ h : j < ks.length, p = .str ks[j] := by
      rw [List.getElem?_map] at hj
      by_cases h : j < ks.length
      · rw [List.getElem?_eq_getElem h] at hj; cases hj; exact ⟨h, rfl⟩
      · rw [List.getElem?_eq_none (by (first | lia | omega))] at hj; cases hj
    obtain ⟨w, hw⟩ : ∃ w, w = ks[j] := ⟨_, rfl⟩
    have hwm : w ∈ ks := hw ▸ List.getElem_mem hj'
    rw [← hw]
    obtain ⟨y, hy, rfl⟩ := L.keys w (hks ▸ hwm)
    have e1 := L.each _ (hks ▸ hwm)
    have e2 := L.even y hy (hks ▸ hwm)
    rw [← hidle] at e1 e2
    rw [htl] at e2
    have gw := gets _ hwm
    refine Sx.cons (S1.if (c := false) (Tr.cast (Tr.cmp (q1 := .R) (q2 := .R) (hlenI (l := underOf ties (pf y)) rfl (Ev.ditem (q1 := .R) (Ev.var 4 rfl rfl rfl) (Ev.var 8 rfl rfl rfl) gw) (by (first | lia | omega)) (by intro _; rfl) (by intro _; rfl)) (hlenI rfl (Ev.var 6 rfl rfl rfl) (by (first | lia | omega)) (by intro _; rfl) (by intro _; rfl)) o_ne) (by rw [e1]; simp)) (fun h => by cases h) (fun _ => Sx.nil ?_))
    have ef : idle.filter (fun one => (((sharedOf one (litOf y) (placesOf n)).length : Int).fmod 2 != 0)) = [] := by
      rw [List.filter_eq_nil_iff]
      intro one ho
      have e3 := e2 one ho
      rw [show (2 : Int) = ((2 : Nat) : Int) from rfl, fmod_nat, e3]
      decide
    refine Sx.cons (S1.if (c := false) (Tr.cast (Tr.cmp (q1 := .R) (q2 := .R) (p1 := .ints []) (p2 := .ints []) (Ev.cast (Ev.compI (l := idle) (t := fun one => (((sharedOf one (litOf y) (placesOf n)).length : Int).fmod 2 != 0)) (f := fun i => .int i) [5, 8] ⟨by decide, rfl, rfl, rfl, rfl, rfl, rfl⟩ (It.list (Ev.var 6 rfl rfl rfl) (atoms_ints _)) (by simp only [sizeLine]; (first | lia | omega)) (fun i hi => .one ?_) (fun i hi _ => Ev.var 0 rfl rfl rfl) (fun i hi _ => rfl)) (by rw [ef])) (Ev.list Evs.nil) o_lne) rfl) (fun h => by cases h) (fun _ => Sx.nil (Sx.nil ?_)))
    · exact Tr.int (q1 := .R) (Ev.op2 (q1 := .R) (q2 := .R) (Ev.call (q1 := .R) (.glob W rfl mH) (TH.callee W) (Evs.cons (Ev.var 0 rfl rfl rfl) (Evs.cons (Ev.var 2 rfl rfl rfl) (Evs.cons (Ev.var 1 rfl rfl rfl) Evs.nil))) (cH hy)) Ev.cint (o_mod (by decide)))
    · exact (Le.same (Le.same (Le.same (Le.same (Le.same (Le.same (Le.same (Le.same (Le.drop (Le.drop Le.nil))))))))))
  refine Sx.nil ?_
  -- the loops
  obtain ⟨y, hy, hys, hym, hyp⟩ := L.loops
  rw [← hks] at hym
  rw [htl, ← hrk] at hyp
  refine Sx.cons (S1.assign (p := .str (pf y)) 9 rfl (Ev.call (q1 := .R) (.glob W rfl mF) (TF.callee W) (Evs.cons (p := .int (y : Int)) (Ev.call (q1 := .R) (ps := [.ints (((List.range n).filter (loopTest ties)).map fun p => (2 : Int) ^ p)]) (.blt W rfl B.sum rfl (by decide)) (.blt _) (Evs.cons (Ev.cast (Ev.compR (n := n) (t := loopTest ties) (f := fun p => .int (2 ^ p)) [3] ⟨by decide, rfl, rfl, rfl, rfl, rfl, rfl⟩ (It.rangeN (q1 := .R) (.blt W rfl B.range rfl (by decide)) (Ev.var 2 rfl rfl rfl) (by (first | lia | omega))) (by simp only [sizeLine]; (first | lia | omega)) (fun p hp => .one ?_) (fun p hp _ => ?_) (fun p _ _ => rfl)) ?_) Evs.nil) (c_sum.to ?_)) Evs.nil) (cF hy)) ?_ (by decide) (by decide))
  · exact Tr.int (q1 := .R) (Ev.op2 (q1 := .R) (q2 := .R) (Ev.op2 (q1 := .R) (q2 := .R) (Ev.idxA (q0 := .R) (q1 := .R) (k := (p : Int)) (Ev.var 1 rfl rfl rfl) (Ev.var 0 rfl rfl rfl) (by (first | lia | omega)) (by (first | lia | omega)) (by rw [Int.toNat_natCast]; exact get_ints (by (first | lia | omega))) rfl) (Ev.var 0 rfl rfl rfl) ((o_shr (by (first | lia | omega))).to (by rw [Int.toNat_natCast]))) Ev.cint o_and)
  · exact Ev.op2 (q1 := .R) (q2 := .R) Ev.cint (Ev.var 0 rfl rfl rfl) (o_pow2 (by (first | lia | omega)))
  · rw [PV.ints, List.map_map]; rfl
  · rw [← hys, loopSum, htl]
  have gy := gets _ hym
  refine Sx.cons (S1.if (c := false) (Tr.cast (Tr.cmp (q1 := .R) (q2 := .R) (Ev.var 9 rfl rfl rfl) (Ev.var 4 rfl rfl rfl) o_notInDict) (by rw [gy]; rfl)) (fun h => by cases h) (fun _ => Sx.nil ?_))
  have ef : (underOf ties (pf y)).filter (fun one => (((sharedOf one (litOf y) (placesOf n)).length : Int).fmod 2 != (rk : Int).fmod 2)) = [] := by
    rw [List.filter_eq_nil_iff]
    intro one ho
    have e3 := hyp one ho
    rw [show (2 : Int) = ((2 : Nat) : Int) from rfl, fmod_nat, fmod_nat, e3]
    simp
  have hul : (underOf ties (pf y)).length ≤ 32 := by
    have := L.each _ (hks ▸ hym)
    rw [← hidle] at this; (first | lia | omega)
  refine Sx.cons (S1.ret (p := .bool true) (Ev.cast (Ev.cmp (q1 := .R) (q2 := .R) (p1 := .ints []) (p2 := .ints []) (Ev.cast (Ev.compI (l := underOf ties (pf y)) (t := fun one => (((sharedOf one (litOf y) (placesOf n)).length : Int).fmod 2 != (rk : Int).fmod 2)) (f := fun i => .int i) [5, 7, 9] ⟨by decide, rfl, rfl, rfl, rfl, rfl, rfl⟩ (It.list (Ev.ditem (q1 := .R) (Ev.var 4 rfl rfl rfl) (Ev.var 9 rfl rfl rfl) gy) (atoms_ints _)) (by simp only [sizeLine]; (first | lia | omega)) (fun i hi => .one ?_) (fun i hi _ => Ev.var 0 rfl rfl rfl) (fun i hi _ => rfl)) (by rw [ef])) (Ev.list Evs.nil) o_leq) rfl) rfl)
  exact Tr.cmp (q1 := .R) (q2 := .R) (Ev.op2 (q1 := .R) (q2 := .R) (Ev.call (q1 := .R) (.glob W rfl mH) (TH.callee W) (Evs.cons (Ev.var 0 rfl rfl rfl) (Evs.cons (Ev.var 3 rfl rfl rfl) (Evs.cons (Ev.var 1 rfl rfl rfl) Evs.nil))) (cH hy)) Ev.cint (o_mod (by decide))) (Ev.op2 (q1 := .R) (q2 := .R) (Ev.var 2 rfl rfl rfl) Ev.cint (o_mod (by decide))) o_ne
end
end Mine
open PySem PySem.Calls PyProof.Rows PySem.W
set_option Elab.async false
set_option autoImplicit false
set_option linter.unusedVariables false
set_option maxRecDepth 20000
namespace Mine

structure Tops (S : Sys) (mg mb : Str → Option Value) where
  W : S.Ok mg mb
  B : Bn mg
  Q : Quo S mg
  Fl : Flg S mg flagTab
  lim : ∃ t, mg "_DIV_LIMIT" = some (.int 4000 t)
  a : Nat → Addr
  fd : Nat → FuncData
  T : ∀ k ∈ [3, 5, 6, 7, 8, 11, 16, 18, 19, 20, 21, 22, 23], TopFn S mg k (a k) (fd k)
  m3 : mg "_div2n1n" = some (.ref (a 3))
  m5 : mg "_int2digits" = some (.ref (a 5))
  m6 : mg "_digits2int" = some (.ref (a 6))
  m7 : mg "_divmod_pos" = some (.ref (a 7))
  m8 : mg "int_divmod" = some (.ref (a 8))
  m11 : mg "pretty_flags" = some (.ref (a 11))
  m16 : mg "quotedata" = some (.ref (a 16))
  m18 : mg "_law_numbers" = some (.ref (a 18))
  m19 : mg "_law_ties" = some (.ref (a 19))
  m20 : mg "_law_rank" = some (.ref (a 20))
  m21 : mg "_law_pictures" = some (.ref (a 21))
  m22 : mg "_law_shared" = some (.ref (a 22))
  m23 : mg "law" = some (.ref (a 23))
  c6 : Addr
  t6 : Tab
  hc6 : (fd 6).code = .ref c6
  K6 : Maker S mg c6 t6
  l6 : t6.line = (stPos d2iIn).line ∧ t6.col = (stPos d2iIn).col
  q6 : (fd 6).qualname ++ ".<locals>." ++ "inner" = t6.qual
  c5 : Addr
  t5 : Tab
  hc5 : (fd 5).code = .ref c5
  K5 : Maker S mg c5 t5
  l5 : t5.line = (stPos i2dIn).line ∧ t5.col = (stPos i2dIn).col
  q5 : (fd 5).qualname ++ ".<locals>." ++ "inner" = t5.qual

section
variable {S : Sys} {mg mb : Str → Option Value}

theorem Tops.d2i (X : Tops S mg mb) {l : List Nat} {n : Nat} (h : ∀ z ∈ l, z < 2 ^ n) (hl : l.length ≤ 10) (hn : n < 2 ^ 13) : CallOk S false 11 (.ref (X.a 6)) [.ints (l.map Int.ofNat), .int n] (.int (dsum n (l.map Int.ofNat))) :=
  d2i_ok (d := 10) X.W (X.T 6 (by decide)) X.hc6 X.K6 X.l6 X.q6 (fit_nat h (by (first | lia | omega)) hn) (by rw [List.length_map]; exact hl) (.blt X.W rfl X.B.len rfl (by decide))
theorem Tops.flags (X : Tops S mg mb) {b : Bool} {x d : Nat} (hx : x < 32) : CallOk S b (d + 1) (.ref (X.a 11)) [.int x] (.str (pf x)) := flags_ok X.W X.B X.Fl (X.T 11 (by decide)) hx
theorem Tops.quote (X : Tops S mg mb) {d : Nat} {en : List Nat} (he : isEnd en) (ls : List (List Nat)) (h0 : ls ≠ []) (hok : ∀ l ∈ ls, okLine l) (h5 : ls.length ≤ 5) (h40 : ∀ l ∈ ls, l.length ≤ 40) :
    CallOk S false (d + 1) (.ref (X.a 16)) [.str (Mine.S (glue en ls))] (.str (Mine.S (glue [13, 10] (ls.map dotted)))) := by
  have hen : en.length ≤ 2 := by rcases he with h | h | h <;> subst h <;> decide
  have hd40 : ∀ l ∈ ls.map dotted, l.length ≤ 41 := fun l hl => by
    obtain ⟨l', hl', rfl⟩ := List.mem_map.mp hl
    have := h40 l' hl'
    unfold dotted; split <;> simp <;> (first | lia | omega)
  have g1 : (glue en ls).length ≤ 5 * (40 + 2) := Nat.le_trans (glue_short h40 h5) (by (first | lia | omega))
  have g2 : (glue [13, 10] ls).length ≤ 5 * (40 + 2) := Nat.le_trans (glue_short h40 h5) (by simp)
  have g3 : (glue [13, 10] (ls.map dotted)).length ≤ 5 * (41 + 2) := Nat.le_trans (glue_short hd40 (by rw [List.length_map]; exact h5)) (by simp)
  exact quote_ok X.W X.Q (X.T 16 (by decide)) he h0 hok (by (first | lia | omega)) (by (first | lia | omega)) (by (first | lia | omega)) (by (first | lia | omega))

theorem Tops.divmod (X : Tops S mg mb) {x y : Nat} (hx : x ≤ 32) (hy : 0 < y) (hy2 : y ≤ 32) : CallOk S false 13 (.ref (X.a 8)) [.int x, .int y] (.tup [.int ((x / y : Nat) : Int), .int ((x % y : Nat) : Int)]) := by
  obtain ⟨t, hlim⟩ := X.lim
  have hny : nbits y ≤ 6 := bits_lt (B := 6) (by (first | lia | omega))
  have hny0 : 0 < nbits y := by
    cases h : nbits y with
    | zero => have := lt_bits y; rw [h] at this; simp at this; (first | lia | omega)
    | succ n => (first | lia | omega)
  have hnx : nbits x ≤ 6 := bits_lt (B := 6) (by (first | lia | omega))
  have hil : i2dLen (nbits y) x ≤ 6 := by
    unfold i2dLen
    exact Nat.le_trans (Nat.div_le_div_right (c := nbits y) (show nbits x + nbits y - 1 ≤ 6 * nbits y by (first | lia | omega))) (by rw [Nat.mul_div_cancel _ hny0]; exact Nat.le_refl _)
  refine idiv_ok (d := 12) X.W (X.T 8 (by decide)) (X.T 7 (by decide)) X.m7 hy (dpos_ok (d := 11) X.W X.B (X.T 7 (by decide)) (X.T 5 (by decide)) (X.T 6 (by decide)) (X.T 3 (by decide)) X.m5 X.m6 X.m3 hy (by (first | lia | omega)) (by (first | lia | omega)) ?_ (fun l h1 h2 => X.d2i h1 (by (first | lia | omega)) (by (first | lia | omega))) fun c hc => ?_)
  · exact i2d_ok (d := 10) X.W (X.T 5 (by decide)) X.hc5 X.K5 X.l5 X.q5 hny0 (by (first | lia | omega)) (B := 6) (by decide) (by (first | lia | omega)) (by (first | lia | omega)) (.blt X.W rfl X.B.len rfl (by decide))
  · exact div2_ok X.W X.B (X.T 3 (by decide)) hlim hy (Nat.lt_of_lt_of_le (Nat.lt_of_le_of_lt hy2 (show 32 < 2 ^ 6 by decide)) (Nat.pow_le_pow_right (by decide) (by decide))) hc

theorem Tops.law (X : Tops S mg mb) {vs : List Int} (hv : vs.length < 2 ^ 20) (hp : ∀ (nums : List Int) (n : Nat), nums.length = 6 → n = 4 ∨ n = 5 → Law1 (tiesOf nums n)) : CallOk S false 15 (.ref (X.a 23)) [.ints vs] (.bool true) := by
  obtain ⟨nums, hnums⟩ : ∃ nums, nums = numAfter vs [1, 3, 6, 4, 25, 0] vs.length := ⟨_, rfl⟩
  have hnl : nums.length = 6 := by rw [hnums, numAfter_len]; rfl
  obtain ⟨n, hn⟩ : ∃ n, n = if vs.length < 4 then 4 else 5 := ⟨_, rfl⟩
  have hn45 : n = 4 ∨ n = 5 := by rw [hn]; split <;> simp
  obtain ⟨ties, ht⟩ : ∃ ties, ties = tiesOf nums n := ⟨_, rfl⟩
  have htl : ties.length = n := by rw [ht]; simp [tiesOf]
  have L := hp nums n hnl hn45
  rw [← ht] at L
  refine top_ok (params := ["script"]) (rest := ["numbers", "size", "ties", "pictures", "places", "idle", "rank", "words", "loops"]) X.W (X.T 23 (by decide))
    (law_body (d := 14) X.W X.B (X.T 18 (by decide)) (X.T 19 (by decide)) (X.T 21 (by decide)) (X.T 11 (by decide)) (X.T 20 (by decide)) (X.T 8 (by decide)) (X.T 22 (by decide)) X.m18 X.m19 X.m21 X.m11 X.m20 X.m8 X.m22 hv hnl htl hn L
      ?_ ?_ ?_ (fun h => X.flags h) ?_ (fun h1 h2 h3 => (X.divmod h1 h2 h3).mono (by decide)) ?_) rfl (by decide) (by decide) (vec1 fun _ fd => rfl) rfl rfl rfl
  · rw [hnums]; exact numbers_ok X.W X.B (X.T 18 (by decide)) hv (by decide) (by decide)
  · rw [ht]; exact ties_ok X.W X.B (X.T 19 (by decide)) (by (first | lia | omega)) (by (first | lia | omega))
  · intro en he
    exact (pics_ok (d := 11) X.W X.B (X.T 21 (by decide)) (X.T 11 (by decide)) (X.T 16 (by decide)) (X.T 6 (by decide)) X.m11 X.m16 X.m6 he (by (first | lia | omega)) (fun h => X.flags h) (fun ls h0 hok h5 h40 => X.quote he ls h0 hok h5 h40) fun l h1 h2 => X.d2i (by simpa using h1) (by (first | lia | omega)) (by decide)).mono (by decide)
  · exact rank_ok X.W X.B (X.T 20 (by decide)) (by (first | lia | omega))
  · intro b chosen y hy
    have hw : (pf y).length < 2 ^ 20 := by
      have : ∀ y, y < 32 → (pf y).length < 100 := by decide +kernel
      have := this y hy; (first | lia | omega)
    have hl : (litOf y).length < 2 ^ 20 := by
      have : ∀ y, y < 32 → (litOf y).length < 100 := by decide +kernel
      have := this y hy; (first | lia | omega)
    exact shared_ok X.W X.B (X.T 22 (by decide)) (by unfold placesOf; rw [List.length_map, List.length_range]; (first | lia | omega)) (split_pf y hy) hw hl
end
end Mine
open PySem PySem.Calls PyProof.Rows PySem.W
set_option Elab.async false
namespace Mine
set_option maxRecDepth 100000 in
set_option maxHeartbeats 8000000 in
open_top hd1 for PySem.Challenge.rw_re0073_01
end Mine
open PySem PySem.Calls PyProof.Rows PySem.W
set_option Elab.async false
set_option autoImplicit false
set_option linter.unusedVariables false
set_option maxRecDepth 100000
namespace Mine

theorem topFn_of {K : Frag} {S : Sys} {mg : Str → Option Value} {k : Nat} {a : Addr} {o : Obj} {fd : FuncData} (X : K.In S.hT) (h1 : K.lookup a = some o) (h2 : o.data = .func fd) (h3 : codeIn K fd.code fd.qualname = true)
    (h4 : fd.body = .stmts (stBody (topAt k))) (h5 : fd.scope = stScope (topAt k)) (h6 : fd.params = stParams (topAt k)) (h7 : fd.closure = []) (h8 : fd.globals = mainGlobals) (h9 : fd.builtins = builtinsNs) (h10 : fd.defaults = .none ∧ fd.kwdefaults = .none) : TopFn S mg k a fd :=
  ⟨⟨o, X _ _ h1, h2⟩, codeRec_of X h3, h4, h5, h6, h7, h8, h9, h10⟩

noncomputable def fnIn (K : Frag) (a : Addr) (dflt : FuncData) : FuncData := match K.lookup a with
  | some o => (match o.data with | .func fd => fd | _ => dflt)
  | none => dflt

theorem maker_of {K : Frag} {S : Sys} {mg : Str → Option Value} {c : Addr} {t : Tab} (X : K.In S.hT) (hm : t ∈ S.tabs) (hi : ∀ t' ∈ S.tabs, t'.P = t.P → t' = t) (h1 : codeHdIn K c t.P = true) (hc : c ∉ S.TB) (hP : t.P ≠ mainGlobals)
    (bm : ∃ bm ob, mg "__builtins__" = some (.ref bm) ∧ bm ≠ builtinsNs ∧ S.hT.get? bm = some ob ∧ ob.cls = .type "module" ∧ ob.dict = some builtinsNs ∧ ob.data = .plain) (g : nsIn K mainGlobals "__builtins__" = some (some (.ref 4))) (G : S.hT.Ns mainGlobals mg) (h4 : 4 ∉ S.TB) (h5 : 4 ≠ t.P) : Maker S mg c t where
  mem := hm
  inj := hi
  hdr := fun h Gh => by
    obtain ⟨o, vs, file, tf, flags, tg, inF, text, tt, e, r⟩ := codeHd_of_K X h1
    exact ⟨o, vs, file, tf, flags, tg, inF, text, tt, Gh.top _ _ hc e, r⟩
  bm := fun h Gh => by
    obtain ⟨bm, ob, e1, e2, e3, e4, e5, e6⟩ := bm
    have := mg_of X G g
    rw [e1] at this
    cases this
    exact ⟨4, ob, e1, e2, by decide, h5, Gh.top _ _ h4 e3, e4, e5, e6⟩
  gP := fun e => hP e.symm

theorem flg_of {K : Frag} {S : Sys} {mg : Str → Option Value} {a : Addr} {es : Array DictEntry} {n : Nat} (X : K.In S.hT) (G : S.hT.Ns mainGlobals mg) (g : nsIn K mainGlobals "COMPILER_FLAG_NAMES" = some (some (.ref a))) (ha : a ∉ S.TB) (hs : (a == sysModules) = false)
    (h1 : K.lookup a = some { cls := .type "dict", data := .dict es n }) (kvs : List (Int × Value)) (h2 : KeysOf (intKind S.prog S.w) es) (h3 : Pairs (intKind S.prog S.w) es.toList kvs) (h4 : (kvs.map (·.1)).Nodup) (h5 : ∀ k x, (k, x) ∈ flagTab → ∃ t, valueAt kvs k = some (.str x t)) : Flg S mg flagTab :=
  ⟨a, kvs, mg_of X G g, ha, hs, ⟨_, es, n, X _ _ h1, ⟨rfl, rfl, rfl⟩, rfl, h2, h3, h4⟩, h5⟩

section
variable {w : World} {h : Heap} {mg mb : Str → Option Value}
noncomputable abbrev K1 (w : World) : Frag := hd1.heap_39 w.params
noncomputable def t6 : Tab := ⟨54, (stPos d2iIn).line, (stPos d2iIn).col, "_digits2int.<locals>.inner"⟩
noncomputable def t5 : Tab := ⟨47, (stPos i2dIn).line, (stPos i2dIn).col, "_int2digits.<locals>.inner"⟩
noncomputable def S1' (w : World) (h : Heap) : Sys := ⟨PW, w, h, [t6, t5]⟩

theorem flg1 (X : (K1 w).In h) (G : h.Ns mainGlobals mg) : Flg (S1' w h) mg flagTab := by
  refine flg_of (K := K1 w) (S := S1' w h) (a := 74) X G rfl (by show 74 ∉ [54, 47]; decide) (by decide) rfl
    [(1, .str "OPTIMIZED" 367), (2, .str "NEWLOCALS" 369), (4, .str "VARARGS" 371), (8, .str "VARKEYWORDS" 373), (16, .str "NESTED" 375), (32, .str "GENERATOR" 377), (64, .str "NOFREE" 379), (128, .str "COROUTINE" 381), (256, .str "ITERABLE_COROUTINE" 383), (512, .str "ASYNC_GENERATOR" 385)] ?_ ?_ (by decide) ?_
  · intro e he
    have he' := Array.mem_toList_iff.mpr he
    simp only [List.mem_cons, List.not_mem_nil, or_false] at he'
    rcases he' with rfl | rfl | rfl | rfl | rfl | rfl | rfl | rfl | rfl | rfl
    · exact ⟨1, rfl, rfl⟩
    · exact ⟨2, rfl, rfl⟩
    · exact ⟨4, rfl, rfl⟩
    · exact ⟨8, rfl, rfl⟩
    · exact ⟨16, rfl, rfl⟩
    · exact ⟨32, rfl, rfl⟩
    · exact ⟨64, rfl, rfl⟩
    · exact ⟨128, rfl, rfl⟩
    · exact ⟨256, rfl, rfl⟩
    · exact ⟨512, rfl, rfl⟩
  · repeat' (first | exact .nil | refine .cons rfl rfl ?_)
  · intro k x hm
    simp only [flagTab, List.mem_cons, Prod.mk.injEq, List.not_mem_nil, or_false] at hm
    rcases hm with ⟨rfl, rfl⟩ | ⟨rfl, rfl⟩ | ⟨rfl, rfl⟩ | ⟨rfl, rfl⟩ | ⟨rfl, rfl⟩ <;> exact ⟨_, rfl⟩

theorem quo1 (X : (K1 w).In h) (G : h.Ns mainGlobals mg) : Quo (S1' w h) mg where
  re1 := ⟨86, mg_of X G rfl, ⟨_, _, 85, _, _, _, X 86 _ rfl, rfl, rfl, rfl, rfl, rfl, rfl, X 85 _ rfl, rfl, rfl, by decide +kernel⟩⟩
  re2 := ⟨91, mg_of X G rfl, ⟨_, _, 90, _, _, _, X 91 _ rfl, rfl, rfl, rfl, rfl, rfl, rfl, X 90 _ rfl, rfl, rfl, by decide +kernel⟩⟩
  crlf := ⟨_, mg_of X G rfl⟩
theorem bn1 (X : (K1 w).In h) (G : h.Ns mainGlobals mg) : Bn mg := by
  constructor <;> exact mg_none_of X G rfl

noncomputable def a1 : Nat → Addr
  | 3 => 38
  | 5 => 52
  | 6 => 59
  | 7 => 66
  | 8 => 73
  | 11 => 81
  | 16 => 98
  | 18 => 105
  | 19 => 110
  | 20 => 117
  | 21 => 122
  | 22 => 127
  | _ => 132
noncomputable def f1 (w : World) (k : Nat) : FuncData := fnIn (K1 w) (a1 k) (fnX "" "" (stParams d2iIn) [] (stScope d2iIn) [] .none .none .none .none none .none .none)

theorem fns1 (X : (K1 w).In h) : ∀ k ∈ [3, 5, 6, 7, 8, 11, 16, 18, 19, 20, 21, 22, 23], TopFn (S1' w h) mg k (a1 k) (f1 w k) := by
  intro k hk
  simp only [List.mem_cons, List.not_mem_nil, or_false] at hk
  rcases hk with rfl | rfl | rfl | rfl | rfl | rfl | rfl | rfl | rfl | rfl | rfl | rfl | rfl <;>
    exact topFn_of (K := K1 w) X rfl rfl (by kernel_rfl) rfl rfl rfl rfl rfl rfl ⟨rfl, rfl⟩

noncomputable def tops1 (X : (K1 w).In h) (hT8 : ∀ P : Addr, P ∈ [54, 47] → h.get? P = some (tabObj #[])) (G : h.Ns mainGlobals mg) (hb : h.Ns builtinsNs mb) (nl : h.NoLimit) (hbb : ∀ x : Str, x ≠ "__name__" → mb x = bootBuiltins x)
    (bm : ∃ bm ob, mg "__builtins__" = some (.ref bm) ∧ bm ≠ builtinsNs ∧ h.get? bm = some ob ∧ ob.cls = .type "module" ∧ ob.dict = some builtinsNs ∧ ob.data = .plain) : Tops (S1' w h) mg mb where
  W := { gdT := ⟨fun _ _ _ e => e, fun t ht => ⟨#[], hT8 t.P (by
      have ht' : t ∈ [t6, t5] := ht
      simp only [List.mem_cons, List.not_mem_nil, or_false] at ht'
      rcases ht' with rfl | rfl
      · exact .head _
      · exact .tail _ (.head _)), .inl rfl⟩⟩, nolimit := nl, g := G, b := hb, blt := hbb }
  B := bn1 X G
  Q := quo1 X G
  Fl := flg1 X G
  lim := ⟨_, mg_of X G rfl⟩
  a := a1
  fd := f1 w
  T := fns1 X
  m3 := mg_of X G rfl
  m5 := mg_of X G rfl
  m6 := mg_of X G rfl
  m7 := mg_of X G rfl
  m8 := mg_of X G rfl
  m11 := mg_of X G rfl
  m16 := mg_of X G rfl
  m18 := mg_of X G rfl
  m19 := mg_of X G rfl
  m20 := mg_of X G rfl
  m21 := mg_of X G rfl
  m22 := mg_of X G rfl
  m23 := mg_of X G rfl
  c6 := 58
  t6 := t6
  hc6 := by kernel_rfl
  K6 := maker_of (K := K1 w) X (.head _) (fun t' h' e => by
      have h2 : t' ∈ [t6, t5] := h'
      simp only [List.mem_cons, List.not_mem_nil, or_false] at h2
      rcases h2 with rfl | rfl
      · rfl
      · exact absurd e (by decide)) (by kernel_rfl) (by show 58 ∉ [54, 47]; decide) (by decide) bm rfl G (by show 4 ∉ [54, 47]; decide) (by decide)
  l6 := ⟨by kernel_rfl, by kernel_rfl⟩
  q6 := by kernel_rfl
  c5 := 51
  t5 := t5
  hc5 := by kernel_rfl
  K5 := maker_of (K := K1 w) X (.tail _ (.head _)) (fun t' h' e => by
      have h2 : t' ∈ [t6, t5] := h'
      simp only [List.mem_cons, List.not_mem_nil, or_false] at h2
      rcases h2 with rfl | rfl
      · exact absurd e (by decide)
      · rfl) (by kernel_rfl) (by show 51 ∉ [54, 47]; decide) (by decide) bm rfl G (by show 4 ∉ [54, 47]; decide) (by decide)
  l5 := ⟨by kernel_rfl, by kernel_rfl⟩
  q5 := by kernel_rfl
end
end Mine
open PySem PySem.Calls PyProof.Rows PySem.W
set_option Elab.async false
set_option autoImplicit false
set_option linter.unusedVariables false
set_option maxRecDepth 100000
namespace Mine

theorem room1 : Room 15 callerA := ⟨rfl, by decide, by decide⟩

theorem oldK_of {S : Sys} {s₁ s' : Shared} (k : Kp S false s₁ s') (ht : ∀ t ∈ S.tabs, isCodeTable s₁.heap t.P ∧ s₁.heap.get? t.P = some (tabObj #[])) : OldK s₁.heap s'.heap := by
  have ha := TabOk.alive k.gd k.keep
  refine ⟨fun b o e => ?_, ha⟩
  by_cases hb : b ∈ S.TB
  · obtain ⟨t, hm, rfl⟩ := List.mem_map.mp hb
    obtain ⟨h1, h2⟩ := ht t hm
    rw [h2] at e; cases e
    obtain ⟨ps, e2, _⟩ := k.gd.tab t hm
    exact .inr (.inl ⟨h1, rfl, #[], ps, rfl, by rw [e2]; simp⟩)
  · exact .inl (k.keep b o hb e)

theorem good1 {S : Sys} {s₁ s' : Shared} {cl : Str → Option Addr} {mean : ExcName → Option Value} {l : OpenLaw} {args : List WData} {fp : List Addr} {v : Value} (k : Kp S false s₁ s') (ht : ∀ t ∈ S.tabs, isCodeTable s₁.heap t.P ∧ s₁.heap.get? t.P = some (tabObj #[])) (hg : s₁.gens = #[]) (r : Rp S s'.heap v (.bool true) fp)
    (hpost : l.row.toRowW.claim.post args (.bool true) args = true) (hr : ∀ cls, l.row.toRowW.claim.raises args cls = false) : GoodWG l.row.toRowW.claim cl mean args s₁ (.ok (.ret v)) s' := by
  (first | obtain ⟨_, rfl, rfl⟩ := r.inv | cases r)
  obtain ⟨h', tk, rfl, _⟩ := id k
  exact ⟨.inl ⟨_, .bool true, [], rfl, hr, .bool true, hpost, fun _ => ⟨.nil, fun a h => by cases h⟩⟩, oldK_of k ht, rfl, .of_eq hg⟩
end Mine
open PySem PySem.Calls PyProof.Rows PySem.W
set_option Elab.async false
set_option autoImplicit false
set_option linter.unusedVariables false
set_option maxRecDepth 100000
namespace Mine

theorem well_plain {P : Params} {h : Heap} {a : Addr} {xs : List WData} {vs : List Value} (x : Well P h (.ref a) (.list xs)) (hl : h.IsList a vs.toArray) : h.PlainList a vs.toArray := by
  cases x with
  | list e _ =>
    obtain ⟨o, e2, _, n, e4⟩ := hl
    rw [e] at e2
    cases e2
    simp only [Data.seq.injEq] at e4
    exact ⟨0, by rw [e, e4.1]⟩

theorem post1 (args : List WData) : PySem.Challenge.rw_re0073_01.row.toRowW.claim.post args (.bool true) args = true :=
  postW_of (by wrow_shape) (by wtm_val) (by str_meet; first | done | w_fin)

theorem go1 {w : World} {s₁ : Shared} {mg mb : Str → Option Value} {fa la : Addr} {vs : List Value} {ns : List Int} {cl : Str → Option Addr} {mean : ExcName → Option Value} {view : Program} {loose : List Str} {mean' : ExcName → Option Value}
    (hp : ∀ (nums : List Int) (n : Nat), nums.length = 6 → n = 4 ∨ n = 5 → Law1 (tiesOf nums n))
    (X : (hd1.heap_39 w.params).In s₁.heap) (hT8 : ∀ P : Addr, P ∈ [54, 47] → s₁.heap.get? P = some (tabObj #[])) (T : Top view loose mean' mg mb s₁.heap) (hm : mg "law" = some (.ref fa)) (hg : s₁.gens = #[])
    (hL : s₁.heap.IsList la vs.toArray) (hW : Well w.params s₁.heap (.ref la) (ofPy (.list (ns.map .int)))) (hI : IntsAre vs ns) (hn : ¬ ((63 : Nat) : Int) < ((ns.length : Nat) : Int)) :
    wpAny (model PySem.Challenge.rw_re0073_01.row.toRowW.prog w) callerA (call (.ref fa) [.ref la])
      (fun v s' => GoodWG PySem.Challenge.rw_re0073_01.row.toRowW.claim cl mean [ofPy (.list (ns.map .int))] s₁ (.ok (.ret v)) s')
      (fun e s' => GoodWG PySem.Challenge.rw_re0073_01.row.toRowW.claim cl mean [ofPy (.list (ns.map .int))] s₁ (.error e) s') s₁ := by
  have tp := tops1 X hT8 T.g T.b T.nolimit T.builtins T.bmain
  have e1 : fa = tp.a 23 := by have := tp.m23; rw [hm] at this; cases this; rfl
  have hlen : ns.length < 2 ^ 20 := by have : ns.length ≤ 63 := by (first | lia | omega)
                                       (first | lia | omega)
  have ok := tp.law hlen hp
  rw [← e1] at ok
  have hpl : s₁.heap.PlainList la vs.toArray := by
    have : ofPy (.list (ns.map .int)) = .list (ofPys (ns.map .int)) := rfl
    rw [this] at hW
    exact well_plain hW hL
  have hTB : la ∉ (S1' w s₁.heap).TB := fun hm => by
    have hm' : la ∈ [54, 47] := hm
    obtain ⟨n, e⟩ := hpl
    rw [hT8 la hm'] at e
    cases e
  have r : Rp (S1' w s₁.heap) s₁.heap (.ref la) (.ints ns) (la :: []) := .list hTB hpl (.ofInts hI)
  have ht : ∀ t ∈ (S1' w s₁.heap).tabs, isCodeTable s₁.heap t.P ∧ s₁.heap.get? t.P = some (tabObj #[]) := by
    intro t ht
    have ht' : t ∈ [t6, t5] := ht
    simp only [List.mem_cons, List.not_mem_nil, or_false] at ht'
    rcases ht' with rfl | rfl
    · exact ⟨((codeHd_of_K (K := K1 w) (c := 58) (P := 54) X (by kernel_rfl)).tab (hT8 _ (.head _))).isCodeTable, hT8 _ (.head _)⟩
    · exact ⟨((codeHd_of_K (K := K1 w) (c := 51) (P := 47) X (by kernel_rfl)).tab (hT8 _ (.tail _ (.head _)))).isCodeTable, hT8 _ (.tail _ (.head _))⟩
  refine wpAny_mono (ok callerA s₁ [.ref la] _ (fun v s' => Kp (S1' w s₁.heap) false s₁ s' ∧ ∃ fp, Rp (S1' w s₁.heap) s'.heap v (.bool true) fp) room1 tp.W.gdT (.cons r .nil) fun v s' fp k r _ => ⟨k, fp, r⟩) (fun v s' h => ?_) (fun e s' h => h.elim)
  obtain ⟨k, fp, r'⟩ := h
  exact good1 k ht hg r' (post1 _) fun _ => rfl

set_option maxHeartbeats 8000000 in
theorem tst (hp : ∀ (nums : List Int) (n : Nat), nums.length = 6 → n = 4 ∨ n = 5 → Law1 (tiesOf nums n)) : PySem.Challenge.rw_re0073_01.Holds := hd1 (by
  w_strict (
    intro w s₀ s₁ mg mb G Y fa o pm cd doc dV kV ho hd hcd hD hmg hg args vals as hpre hlay hrd hwl hlo
    have KX := km_in_of Y
    km_tabs Y
    refine Ground.open G ?_
    intro T B D TE TW
    clear TE TW B D Y G
    wrow_args hpre hlay hrd hwl hlo
    all_goals exact go1 hp KX hT8 T hmg hg (by assumption) (by assumption) (by assumption) (by assumption)))
end Mine
open PySem PySem.Calls PyProof.Rows PySem.W
set_option Elab.async false
set_option autoImplicit false
set_option linter.unusedVariables false
set_option maxRecDepth 20000
namespace Mine

theorem andBit (x p : Nat) : (Builtin.bitAnd ((x : Int).fdiv (2 ^ p)) 1 != 0) = x.testBit p := by
  have h := bit_even x p
  rw [bne, h, Nat.testBit_eq_decide_div_mod_eq]
  have : x / 2 ^ p % 2 = 0 ∨ x / 2 ^ p % 2 = 1 := by (first | lia | omega)
  rcases this with h | h <;> rw [h] <;> rfl
theorem sum_bits (f : Nat → Bool) : ∀ n, (((List.range n).filter f).map fun j => (2 : Int) ^ j).sum = (bitsN f n : Int)
  | 0 => rfl
  | n + 1 => by
    rw [List.range_succ, List.filter_append, List.map_append, List.sum_append, sum_bits f n, bitsN]
    cases hf : f n <;> simp [hf]

theorem nsum_bit : ∀ (l : List Nat) (p : Nat), (∀ z ∈ l, z < 2) → (nsum 1 l).testBit p = (l.getD p 0 == 1)
  | [], p, _ => by simp [nsum]
  | d :: l, 0, h => by
    have hd := h d (.head _)
    rw [nsum, Nat.testBit_zero]
    have : d = 0 ∨ d = 1 := by (first | lia | omega)
    rcases this with h | h <;> subst h <;> simp <;> (first | lia | omega)
  | d :: l, p + 1, h => by
    have hd := h d (.head _)
    rw [nsum, Nat.testBit_succ, show (d + 2 ^ 1 * nsum 1 l) / 2 = nsum 1 l by (first | lia | omega), nsum_bit l p fun z hz => h z (.tail _ hz)]
    rfl
theorem lamp_bit (cs : List Nat) {p : Nat} (hp : p < cs.length) : (lampVal cs).testBit p = decide ((cs.getD p 0 + 1) % 2 = 1) := by
  rw [lampVal, nsum_bit _ _ fun z hz => by obtain ⟨c, _, rfl⟩ := List.mem_map.mp hz; (first | lia | omega)]
  rw [List.getD_eq_getElem?_getD, List.getElem?_map, List.getElem?_eq_getElem hp, List.getD_eq_getElem?_getD, List.getElem?_eq_getElem hp]
  rfl

structure Rows (ties : List Int) (n : Nat) (row : Nat → Nat) : Prop where
  n45 : n = 4 ∨ n = 5
  eq : ties = (List.range n).map fun p => (row p : Int)
  lt : ∀ p, p < n → row p < 2 ^ n
  sym : ∀ p q, p < n → q < n → (row p).testBit q = (row q).testBit p

theorem rows_of (nums : List Int) {n : Nat} (hn : n = 4 ∨ n = 5) : Rows (tiesOf nums n) n (fun p => bitsN (tieBit nums p) n) where
  n45 := hn
  eq := by
    unfold tiesOf
    apply List.map_congr_left
    intro p _
    exact sum_bits _ n
  lt := fun p _ => bitsN_lt _ n
  sym := fun p q hp hq => by
    rw [bitsN_bit, bitsN_bit, decide_eq_true hp, decide_eq_true hq]
    unfold tieBit
    rw [Nat.max_comm, Nat.min_comm]

section
variable {ties : List Int} {n : Nat} {row : Nat → Nat}

theorem Rows.len (R : Rows ties n row) : ties.length = n := by rw [R.eq]; simp
theorem Rows.n5 (R : Rows ties n row) : n ≤ 5 := by have := R.n45; (first | lia | omega)
theorem Rows.lt32 (R : Rows ties n row) {p : Nat} (hp : p < n) : row p < 32 := Nat.lt_of_lt_of_le (R.lt p hp) (pow5 R.n5)
theorem Rows.get (R : Rows ties n row) {p : Nat} (hp : p < n) : ties.getD p 0 = (row p : Int) := by
  rw [R.eq, List.getD_eq_getElem?_getD, List.getElem?_map, List.getElem?_range hp]; rfl
theorem Rows.touched (R : Rows ties n row) {pl : Nat} (hp : pl < n) : touchedOf ties pl = (List.range n).filter (row pl).testBit := by
  unfold touchedOf
  rw [R.len]
  apply List.filter_congr
  intro p _
  rw [R.get hp, andBit]

theorem Rows.lamp (R : Rows ties n row) {cs : List Nat} {pl : Nat} (hl : cs.length = n) (hp : pl < n) : lampVal (press cs (touchedOf ties pl)) = lampVal cs ^^^ row pl := by
  apply Nat.eq_of_testBit_eq
  intro q
  rw [Nat.testBit_xor]
  by_cases hq : q < n
  · rw [lamp_bit _ (by rw [press_len, hl]; exact hq), lamp_bit _ (by rw [hl]; exact hq), press_getD _ (touched_nodup _ _) _ _ (by rw [hl]; exact hq), R.touched hp]
    generalize cs.getD q 0 = c
    cases hb : (row pl).testBit q
    · rw [if_neg (by simp [hb]), Nat.add_zero, Bool.xor_false]
    · rw [if_pos (by simp [hb, hq]), Bool.xor_true]
      have : c % 2 = 0 ∨ c % 2 = 1 := by (first | lia | omega)
      rcases this with h | h
      · rw [show (c + 1 + 1) % 2 = 0 by (first | lia | omega), show (c + 1) % 2 = 1 by (first | lia | omega)]; rfl
      · rw [show (c + 1 + 1) % 2 = 1 by (first | lia | omega), show (c + 1) % 2 = 0 by (first | lia | omega)]; rfl
  · have h1 : lampVal (press cs (touchedOf ties pl)) < 2 ^ q := Nat.lt_of_lt_of_le (lamp_lt _) (Nat.pow_le_pow_right (by decide) (by rw [press_len]; (first | lia | omega)))
    have h2 : lampVal cs < 2 ^ q := Nat.lt_of_lt_of_le (lamp_lt _) (Nat.pow_le_pow_right (by decide) (by (first | lia | omega)))
    have h3 : row pl < 2 ^ q := Nat.lt_of_lt_of_le (R.lt pl hp) (Nat.pow_le_pow_right (by decide) (by (first | lia | omega)))
    rw [Nat.testBit_lt_two_pow h1, Nat.testBit_lt_two_pow h2, Nat.testBit_lt_two_pow h3]; rfl

noncomputable def gray (n : Nat) : Nat → Nat
  | 0 => 0
  | j + 1 => gray n j ^^^ 2 ^ tz n (j + 1)
theorem gray4 : ((List.range (2 ^ 4)).map (gray 4)).Perm (List.range (2 ^ 4)) := List.isPerm_iff.mp (by decide +kernel)
theorem gray5 : ((List.range (2 ^ 5)).map (gray 5)).Perm (List.range (2 ^ 5)) := List.isPerm_iff.mp (by decide +kernel)
theorem gray_perm (hn : n = 4 ∨ n = 5) : ((List.range (2 ^ n)).map (gray n)).Perm (List.range (2 ^ n)) := by
  rcases hn with h | h
  · subst h; exact gray4
  · subst h; exact gray5

theorem nsum_zeros (l : List Nat) (h : ∀ z ∈ l, z = 0) : nsum 1 l = 0 := by
  induction l with
  | nil => rfl
  | cons d l ih => rw [nsum, ih fun z hz => h z (.tail _ hz), h d (.head _)]

theorem Rows.state (R : Rows ties n row) : ∀ j, j < 2 ^ n → (picAfter ties j).pressed = gray n j ∧ lampVal (picAfter ties j).cs = fx row n (gray n j)
  | 0, _ => by
    refine ⟨rfl, ?_⟩
    rw [gray, fx_zero, lampVal]
    apply nsum_zeros
    intro z hz
    obtain ⟨c, hc, rfl⟩ := List.mem_map.mp hz
    have : c = 1 := by
      have := (pic_ok ties 0).low c hc; (first | lia | omega)
    subst this; rfl
  | j + 1, h => by
    obtain ⟨h1, h2⟩ := R.state j (by (first | lia | omega))
    have ht := (tz_spec n (j + 1) R.n5 h (by (first | lia | omega))).1
    rw [picAfter_succ]
    simp only [picStep, R.len]
    constructor
    · rw [h1]; rfl
    · rw [R.lamp (by rw [pic_len, R.len]) ht, h2, gray, fx_xor, fx_pow, if_pos ht]

noncomputable def kf (row : Nat → Nat) (n i : Nat) : Str := pf (fx row n (gray n i))

theorem vals_put_ne {k w : Str} {y : Int} (h : w ≠ k) : ∀ (ks : List Str) (vs : List (List Int)), valsOf ks (List.zipWith (fun x l => if x = k then l ++ [y] else l) ks vs) w = valsOf ks vs w
  | [], vs => by cases vs <;> rfl
  | x :: ks, [] => rfl
  | x :: ks, l :: vs => by
    rw [List.zipWith_cons_cons, valsOf, valsOf, vals_put_ne h ks vs]
    by_cases e : x = w
    · rw [if_pos e, if_pos e, if_neg (by rw [e]; exact h)]
    · rw [if_neg e, if_neg e]
theorem vals_put_eq {k : Str} {y : Int} : ∀ (ks : List Str) (vs : List (List Int)), ks.length = vs.length → k ∈ ks → valsOf ks (List.zipWith (fun x l => if x = k then l ++ [y] else l) ks vs) k = valsOf ks vs k ++ [y]
  | [], vs, _, h => by cases h
  | x :: ks, [], e, _ => by cases e
  | x :: ks, l :: vs, e, h => by
    rw [List.zipWith_cons_cons, valsOf, valsOf]
    by_cases e' : x = k
    · rw [if_pos e', if_pos e', if_pos e']
    · rw [if_neg e', if_neg e', vals_put_eq ks vs (by simpa using e) ((List.mem_cons.mp h).resolve_left (Ne.symm e'))]
theorem vals_snoc {k w : Str} {l : List Int} : ∀ (ks : List Str) (vs : List (List Int)), ks.length = vs.length → valsOf (ks ++ [k]) (vs ++ [l]) w = if w ∈ ks then valsOf ks vs w else if k = w then l else []
  | [], [], _ => by simp [valsOf]
  | [], _ :: _, e => by cases e
  | x :: ks, [], e => by cases e
  | x :: ks, v :: vs, e => by
    rw [List.cons_append, List.cons_append, valsOf, valsOf, vals_snoc ks vs (by simpa using e)]
    by_cases e' : x = w
    · rw [if_pos e', if_pos e', if_pos (by rw [e']; exact .head _)]
    · rw [if_neg e', if_neg e']
      have : (w ∈ x :: ks) ↔ w ∈ ks := ⟨fun h => (List.mem_cons.mp h).resolve_left (Ne.symm e'), fun h => .tail _ h⟩
      simp only [this]
theorem vals_put {ks : List Str} {vs : List (List Int)} {k w : Str} {y : Int} (e : ks.length = vs.length) :
    valsOf (dkeys ks k) (if ks.any (fun x => decide (x = k)) then List.zipWith (fun x l => if x = k then l ++ [y] else l) ks vs else vs ++ [[y]]) w = valsOf ks vs w ++ (if k = w then [y] else []) := by
  unfold dkeys
  by_cases h : (ks.any fun x => decide (x = k)) = true
  · rw [if_pos h, if_pos h]
    have hk := (any_eq ks k).mp h
    by_cases hw : k = w
    · subst hw; rw [if_pos rfl, vals_put_eq ks vs e hk]
    · rw [if_neg hw, vals_put_ne (Ne.symm hw), List.append_nil]
  · rw [if_neg h, if_neg h]
    have hk : k ∉ ks := fun hm => h ((any_eq ks k).mpr hm)
    rw [vals_snoc ks vs e]
    by_cases hw : w ∈ ks
    · rw [if_pos hw, if_neg fun e => hk (by rw [e]; exact hw), List.append_nil]
    · rw [if_neg hw, vals_not hw, List.nil_append]
theorem sum_put {k : Str} {y : Int} : ∀ (ks : List Str) (vs : List (List Int)), ks.length = vs.length → ks.Nodup →
    ((List.zipWith (fun x l => if x = k then l ++ [y] else l) ks vs).map List.length).sum = (vs.map List.length).sum + if k ∈ ks then 1 else 0
  | [], [], _, _ => by simp
  | [], _ :: _, e, _ => by cases e
  | x :: ks, [], e, _ => by cases e
  | x :: ks, v :: vs, e, nd => by
    have hp := List.nodup_cons.mp nd
    rw [List.zipWith_cons_cons, List.map_cons, List.sum_cons, sum_put ks vs (by simpa using e) hp.2, List.map_cons, List.sum_cons]
    by_cases e' : x = k
    · subst e'
      rw [if_pos rfl, if_neg hp.1, if_pos (.head _), List.length_append]; simp; (first | lia | omega)
    · rw [if_neg e']
      have : (k ∈ x :: ks) ↔ k ∈ ks := ⟨fun h => (List.mem_cons.mp h).resolve_left (Ne.symm e'), fun h => .tail _ h⟩
      simp only [this]; (first | lia | omega)

structure Dic (ties : List Int) (row : Nat → Nat) (n j : Nat) (st : Pic) : Prop where
  vals : ∀ w, valsOf st.ks st.vs w = ((List.range (j + 1)).filter fun i => decide (kf row n i = w)).map fun i => ((gray n i : Nat) : Int)
  keys : ∀ w, w ∈ st.ks ↔ ∃ i, i ≤ j ∧ kf row n i = w
  sum : (st.vs.map List.length).sum = j + 1

theorem Rows.dic (R : Rows ties n row) : ∀ j, j < 2 ^ n → Dic ties row n j (picAfter ties j)
  | 0, _ => by
    have e0 : kf row n 0 = pf 0 := by rw [kf, gray, fx_zero]
    refine ⟨fun w => ?_, fun w => ?_, rfl⟩
    · show valsOf [pf 0] [[0]] w = ((List.range 1).filter fun i => decide (kf row n i = w)).map fun i => ((gray n i : Nat) : Int)
      rw [valsOf, show List.range 1 = [0] from rfl, List.filter_cons, e0]
      by_cases h : pf 0 = w
      · rw [if_pos h, if_pos (by simpa using h)]; rfl
      · rw [if_neg h, if_neg (by simpa using h)]; rfl
    · show w ∈ [pf 0] ↔ _
      constructor
      · intro h
        simp at h
        exact ⟨0, Nat.le_refl _, by rw [e0, h]⟩
      · rintro ⟨i, hi, rfl⟩
        have : i = 0 := by (first | lia | omega)
        subst this; rw [e0]; simp
  | j + 1, h => by
    obtain ⟨i1, i2, i3⟩ := R.dic j (by (first | lia | omega))
    have ok := pic_ok ties j
    obtain ⟨s1, s2⟩ := R.state (j + 1) h
    have hw : pf (lampVal (picAfter ties (j + 1)).cs) = kf row n (j + 1) := by rw [s2]; rfl
    have e0 : picAfter ties (j + 1) = picStep ties (picAfter ties j) (j + 1) := picAfter_succ ties j
    have hks : (picAfter ties (j + 1)).ks = dkeys (picAfter ties j).ks (kf row n (j + 1)) := by rw [← hw, e0]; rfl
    have hvs : (picAfter ties (j + 1)).vs = if (picAfter ties j).ks.any (fun x => decide (x = kf row n (j + 1))) then List.zipWith (fun x l => if x = kf row n (j + 1) then l ++ [((gray n (j + 1) : Nat) : Int)] else l) (picAfter ties j).ks (picAfter ties j).vs else (picAfter ties j).vs ++ [[((gray n (j + 1) : Nat) : Int)]] := by
      rw [← hw, ← s1, e0]; rfl
    refine ⟨fun w => ?_, fun w => ?_, ?_⟩
    · rw [hks, hvs, vals_put ok.kv, i1, List.range_succ (n := j + 1), List.filter_append, List.map_append]
      congr 1
      by_cases h : kf row n (j + 1) = w
      · rw [if_pos h]; simp [h]
      · rw [if_neg h]; simp [h]
    · rw [hks]
      have : w ∈ dkeys (picAfter ties j).ks (kf row n (j + 1)) ↔ w ∈ (picAfter ties j).ks ∨ kf row n (j + 1) = w := by
        unfold dkeys
        split
        · rename_i hm
          have hm' := (any_eq _ _).mp hm
          exact ⟨.inl, fun h => h.elim id fun e => e ▸ hm'⟩
        · rw [List.mem_append, List.mem_singleton]
          exact or_congr Iff.rfl eq_comm
      rw [this, i2]
      constructor
      · rintro (⟨i, hi, e⟩ | e)
        · exact ⟨i, by (first | lia | omega), e⟩
        · exact ⟨j + 1, Nat.le_refl _, e⟩
      · rintro ⟨i, hi, e⟩
        by_cases h : i = j + 1
        · subst h; exact .inr e
        · exact .inl ⟨i, by (first | lia | omega), e⟩
    · rw [hvs]
      split
      · rename_i hm
        rw [sum_put _ _ ok.kv ok.nd, i3, if_pos ((any_eq _ _).mp hm)]
      · rw [List.map_append, List.sum_append, i3]; rfl
end
end Mine
open PySem PySem.Calls PyProof.Rows PySem.W
set_option Elab.async false
set_option autoImplicit false
set_option linter.unusedVariables false
set_option maxRecDepth 20000
namespace Mine

theorem pf_inj : ∀ x, x < 32 → ∀ y, y < 32 → pf x = pf y → x = y := by decide +kernel
theorem lit_any : ∀ y, y < 32 → ∀ p, p < 5 → (litOf y).any (· == pf (2 ^ p)) = y.testBit p := by decide +kernel

theorem filt_px (f : Nat → Bool) : ∀ n, ((List.range n).filter f).length % 2 = (px f n).toNat
  | 0 => rfl
  | n + 1 => by
    rw [List.range_succ, List.filter_append, List.length_append, px, Nat.add_mod, filt_px f n]
    cases hf : f n <;> cases px f n <;> simp [hf]

theorem shared_px {n x y : Nat} (hn : n ≤ 5) (hy : y < 32) : (sharedOf (x : Int) (litOf y) (placesOf n)).length % 2 = (px (fun p => x.testBit p && y.testBit p) n).toNat := by
  rw [← filt_px]
  unfold sharedOf
  congr 2
  have hl : (placesOf n).length = n := by simp [placesOf]
  rw [hl]
  apply List.filter_congr
  intro p hp
  have hp' := List.mem_range.mp hp
  have : (placesOf n).getD p default = pf (2 ^ p) := by
    unfold placesOf
    rw [List.getD_eq_getElem?_getD, List.getElem?_map, List.getElem?_range hp']; rfl
  rw [andBit, this, lit_any y hy p (by (first | lia | omega))]

theorem vs_map : ∀ {ks : List Str} {vs : List (List Int)}, ks.length = vs.length → ks.Nodup → vs = ks.map (valsOf ks vs)
  | [], [], _, _ => rfl
  | [], _ :: _, e, _ => by cases e
  | x :: ks, [], e, _ => by cases e
  | x :: ks, v :: vs, e, nd => by
    have hp := List.nodup_cons.mp nd
    rw [List.map_cons]
    congr 1
    · rw [valsOf, if_pos rfl]
    · have ih := vs_map (ks := ks) (vs := vs) (by simpa using e) hp.2
      have : ks.map (valsOf (x :: ks) (v :: vs)) = ks.map (valsOf ks vs) := by
        apply List.map_congr_left
        intro w hw
        rw [valsOf, if_neg fun e => hp.1 (by rw [e]; exact hw)]
      rw [this]; exact ih
theorem sum_const {ks : List Str} {f : Str → Nat} {c : Nat} (h : ∀ w ∈ ks, f w = c) : (ks.map f).sum = ks.length * c := by
  induction ks with
  | nil => simp
  | cons x ks ih => rw [List.map_cons, List.sum_cons, h x (.head _), ih fun w hw => h w (.tail _ hw), List.length_cons, Nat.add_mul]; (first | lia | omega)

section
variable {ties : List Int} {n : Nat} {row : Nat → Nat}

theorem redBy_nat : ∀ (bs : List Nat) (x : Nat), redBy (bs.map Int.ofNat) (x : Int) = (redB bs x : Int)
  | [], _ => rfl
  | o :: bs, x => by
    show redBy (bs.map Int.ofNat) (redStep (x : Int) (o : Int)) = (redB bs (redN x o) : Int)
    rw [← redBy_nat bs]
    congr 1
    unfold redStep redN
    rw [bitXor_nat]
    (first | lia | omega)
theorem rank_nat (bs : List Nat) (x : Nat) : rankStep (bs.map Int.ofNat) (x : Int) = (rkStep bs x).map Int.ofNat := by
  unfold rankStep rkStep
  rw [redBy_nat]
  by_cases h : redB bs x = 0
  · rw [h]; simp
  · rw [if_pos (by simpa using h), if_pos h, List.map_append]; rfl
theorem basis_nat (row : Nat → Nat) : ∀ n, basisOf ((List.range n).map fun p => (row p : Int)) = (bas row n).map Int.ofNat
  | 0 => rfl
  | n + 1 => by
    have ih := basis_nat row n
    unfold basisOf at ih ⊢
    rw [List.range_succ, List.map_append, List.foldl_append, ih]
    exact rank_nat _ _

theorem Rows.law1 (R : Rows ties n row) : Law1 ties := by
  have hn5 := R.n5
  have h32 : (2 : Nat) ^ n ≤ 32 := pow5 hn5
  have h2p : 0 < (2 : Nat) ^ n := Nat.two_pow_pos n
  have hlt : ∀ p, p < n → row p < 32 := fun p hp => R.lt32 hp
  have hfl : ∀ x, fx row n x < 2 ^ n := fun x => fx_lt row x n R.lt
  have hfl' : ∀ x, fx row n x < 32 := fun x => Nat.lt_of_lt_of_le (hfl x) h32
  have D := R.dic (2 ^ n - 1) (by (first | lia | omega))
  have ok := pic_ok ties (2 ^ n - 1)
  have epic : picEnd ties = picAfter ties (2 ^ n - 1) := by unfold picEnd; rw [R.len]
  have e1 : 2 ^ n - 1 + 1 = 2 ^ n := by (first | lia | omega)
  have eunder : ∀ w, underOf ties w = ((List.range (2 ^ n)).filter fun i => decide (kf row n i = w)).map fun i => ((gray n i : Nat) : Int) := fun w => by
    unfold underOf; rw [epic, D.vals w, e1]
  have SP := span_ok row n hlt
  have SU := sutner R.n45 row R.lt R.sym
  have hbas : (basisOf ties).length = (bas row n).length := by rw [R.eq, basis_nat, List.length_map]
  have hlen : ∀ y, y < 32 → (underOf ties (pf y)).length = cnt row n y := fun y hy => by
    rw [eunder, List.length_map, ← List.countP_eq_length_filter]
    have : (List.range (2 ^ n)).countP (fun i => decide (kf row n i = pf y)) = ((List.range (2 ^ n)).map (gray n)).countP fun x => decide (fx row n x = y) := by
      rw [List.countP_map]
      apply List.countP_congr
      intro i _
      simp only [Function.comp, decide_eq_true_eq]
      constructor
      · intro h; exact pf_inj _ (hfl' _) _ hy h
      · intro h; rw [kf, h]
    rw [this, (gray_perm R.n45).countP_eq]
    rfl
  have hkey : ∀ w, w ∈ (picEnd ties).ks → ∃ x, w = pf (fx row n x) ∧ cnt row n (fx row n x) ≠ 0 := fun w hw => by
    rw [epic, D.keys] at hw
    obtain ⟨i, hi, e⟩ := hw
    refine ⟨gray n i, e.symm, ?_⟩
    have hm : gray n i ∈ (List.range (2 ^ n)) := (gray_perm R.n45).mem_iff.mp (List.mem_map.mpr ⟨i, List.mem_range.mpr (by (first | lia | omega)), rfl⟩)
    have : 0 < (List.range (2 ^ n)).countP fun x => decide (fx row n x = fx row n (gray n i)) := List.countP_pos_iff.mpr ⟨_, hm, by simp⟩
    unfold cnt; (first | lia | omega)
  have hkey2 : ∀ x, x < 2 ^ n → pf (fx row n x) ∈ (picEnd ties).ks := fun x hx => by
    rw [epic, D.keys]
    have hm : x ∈ (List.range (2 ^ n)).map (gray n) := (gray_perm R.n45).mem_iff.mpr (List.mem_range.mpr hx)
    obtain ⟨i, hi, rfl⟩ := List.mem_map.mp hm
    have := List.mem_range.mp hi
    exact ⟨i, by (first | lia | omega), rfl⟩
  have hunder : ∀ y, y < 32 → ∀ one ∈ underOf ties (pf y), ∃ x : Nat, x < 2 ^ n ∧ one = (x : Int) ∧ fx row n x = y := fun y hy one ho => by
    rw [eunder] at ho
    obtain ⟨i, hi, rfl⟩ := List.mem_map.mp ho
    obtain ⟨h1, h2⟩ := List.mem_filter.mp hi
    refine ⟨gray n i, List.mem_range.mp ((gray_perm R.n45).mem_iff.mp (List.mem_map.mpr ⟨i, h1, rfl⟩)), rfl, ?_⟩
    exact pf_inj _ (hfl' _) _ hy (of_decide_eq_true h2)
  have h00 := hlen 0 (by decide)
  have hc0 : cnt row n 0 ≠ 0 := fun h => by have := SP.size; rw [h, Nat.zero_mul] at this; (first | lia | omega)
  have hsame : ∀ y, cnt row n y ≠ 0 → cnt row n y = cnt row n 0 := fun y h => by
    have := cnt_shift row n y h 0
    rw [Nat.xor_zero] at this; exact this
  have heach : ∀ w ∈ (picEnd ties).ks, (underOf ties w).length = cnt row n 0 := fun w hw => by
    obtain ⟨x, rfl, hx⟩ := hkey w hw
    rw [hlen _ (hfl' x), hsame _ hx]
  have hmul : (picEnd ties).ks.length * cnt row n 0 = 2 ^ n := by
    have h1 := D.sum
    rw [← epic, vs_map (ks := (picEnd ties).ks) (vs := (picEnd ties).vs) (by rw [epic]; exact ok.kv) (by rw [epic]; exact ok.nd), List.map_map] at h1
    have h2 := sum_const (f := List.length ∘ valsOf (picEnd ties).ks (picEnd ties).vs) (c := cnt row n 0) fun w hw => heach w hw
    (first | lia | omega)
  have hpar : ∀ x z, px (fun p => z.testBit p && (fx row n x).testBit p) n = px (fun p => x.testBit p && (fx row n z).testBit p) n := fun x z => by
    have a1 : px (fun p => z.testBit p && (fx row n x).testBit p) n = px (fun p => px (fun q => z.testBit p && (x.testBit q && (row q).testBit p)) n) n := px_congr n fun p _ => by rw [fx_bit, px_and]
    have a2 : px (fun p => x.testBit p && (fx row n z).testBit p) n = px (fun p => px (fun q => x.testBit p && (z.testBit q && (row q).testBit p)) n) n := px_congr n fun p _ => by rw [fx_bit, px_and]
    rw [a1, a2, px_swap]
    refine px_congr n fun q hq => px_congr n fun p hp => ?_
    rw [R.sym p q hp hq]
    cases z.testBit p <;> cases x.testBit q <;> cases (row q).testBit p <;> rfl
  have hd : bitsN (fun p => (row p).testBit p) n < 32 := Nat.lt_of_lt_of_le (bitsN_lt _ n) h32
  refine ⟨?_, ?_, ?_, ?_, ?_, ?_, ?_, ?_, ?_, ?_⟩
  · intro w hw
    obtain ⟨x, rfl, _⟩ := hkey w hw
    exact ⟨_, hfl' x, rfl⟩
  · have := hkey2 0 h2p
    rwa [fx_zero] at this
  · rw [h00]; exact hc0
  · rw [h00]
    unfold cnt
    exact Nat.le_trans List.countP_le_length (by rw [List.length_range]; exact h32)
  · rw [R.len, h00, ← hmul, Nat.mul_div_cancel _ (by (first | lia | omega))]
  · rw [R.len, h00, ← hmul, Nat.mul_mod_left]
  · have h1 := SP.size
    rw [← hmul, Nat.mul_comm] at h1
    rw [hbas]
    exact (Nat.eq_of_mul_eq_mul_right (Nat.pos_of_ne_zero hc0) h1).symm
  · intro w hw
    rw [heach w hw, h00]
  · intro y hy hyk one ho
    obtain ⟨x, hx, rfl, hx0⟩ := hunder 0 (by decide) one ho
    obtain ⟨x0, e0, _⟩ := hkey _ hyk
    have hy0 := pf_inj _ hy _ (hfl' x0) e0
    rw [R.len, shared_px hn5 hy, hy0, hpar x0 x, hx0]
    have : px (fun p => x0.testBit p && (0 : Nat).testBit p) n = false := by
      rw [px_congr n (g := fun _ => false) fun p _ => by simp]; exact px_false n
    rw [this]; rfl
  · refine ⟨bitsN (fun p => (row p).testBit p) n, hd, ?_, ?_, ?_⟩
    · unfold loopSum
      rw [R.len, ← sum_bits]
      congr 2
      apply List.filter_congr
      intro p hp
      unfold loopTest
      rw [R.get (List.mem_range.mp hp), andBit]
    · obtain ⟨x, hx, hq⟩ := SU.ex
      have : fx row n x = bitsN (fun p => (row p).testBit p) n := by
        apply Nat.eq_of_testBit_eq
        intro q
        rw [bitsN_bit]
        by_cases h : q < n
        · rw [decide_eq_true h, hq q h]; rfl
        · rw [decide_eq_false h, Nat.testBit_lt_two_pow (Nat.lt_of_lt_of_le (hfl x) (Nat.pow_le_pow_right (by decide) (by (first | lia | omega))))]; rfl
      rw [← this]; exact hkey2 x hx
    · intro one ho
      obtain ⟨x, hx, rfl, hxd⟩ := hunder _ hd one ho
      have hbit : ∀ q, q < n → (fx row n x).testBit q = (row q).testBit q := fun q hq => by rw [hxd, bitsN_bit, decide_eq_true hq]; rfl
      rw [R.len, shared_px hn5 hd, hbas]
      have : px (fun p => x.testBit p && (bitsN (fun p => (row p).testBit p) n).testBit p) n = px (fun p => x.testBit p && (row p).testBit p) n := px_congr n fun p hp => by rw [bitsN_bit, decide_eq_true hp]; rfl
      rw [this, SU.par x hx hbit]
      have : (bas row n).length % 2 = 0 ∨ (bas row n).length % 2 = 1 := by (first | lia | omega)
      rcases this with h | h <;> rw [h] <;> rfl
end
theorem law1_all (nums : List Int) (n : Nat) (hl : nums.length = 6) (hn : n = 4 ∨ n = 5) : Law1 (tiesOf nums n) := (rows_of nums hn).law1
end Mine
open PySem PySem.Calls PyProof.Rows PySem.W
set_option Elab.async false
theorem PySem.Challenge.cw_re0073_01_holds : PySem.Challenge.rw_re0073_01.Holds :=
  Mine.tst Mine.law1_all

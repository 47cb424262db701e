import PyProof.Rows.All
import Wide.All
import OpenK.AllK
import Wide.FinOn
import Lean
import PySem.Challenge.RW_re0073_02
set_option genSizeOf false
set_option genInjectivity false
set_option Elab.async false
set_option autoImplicit false
set_option linter.unusedVariables false
namespace Mine

noncomputable def px (f : Nat → Bool) : Nat → Bool
  | 0 => false
  | n + 1 => (px f n).xor (f n)
theorem px_congr {f g : Nat → Bool} : ∀ n, (∀ p, p < n → f p = g p) → px f n = px g n
  | 0, _ => rfl
  | n + 1, h => by rw [px, px, px_congr n fun p hp => h p (by (first | lia | omega)), h n (by (first | lia | omega))]
theorem px_false (n : Nat) : px (fun _ => false) n = false := by
  induction n with
  | zero => rfl
  | succ n ih => rw [px, ih]; rfl
theorem px_and (a : Bool) (f : Nat → Bool) (n : Nat) : px (fun p => a && f p) n = (a && px f n) := by
  cases a
  · simp [px_false]
  · simp
noncomputable def bitsN (f : Nat → Bool) : Nat → Nat
  | 0 => 0
  | n + 1 => bitsN f n + (if f n then 2 ^ n else 0)
theorem bitsN_lt (f : Nat → Bool) : ∀ n, bitsN f n < 2 ^ n
  | 0 => by simp [bitsN]
  | n + 1 => by
    have := bitsN_lt f n
    rw [bitsN, Nat.pow_succ]
    split <;> (first | lia | omega)
theorem bitsN_bit (f : Nat → Bool) : ∀ n j, (bitsN f n).testBit j = (decide (j < n) && f j)
  | 0, j => by simp [bitsN]
  | n + 1, j => by
    have hl := bitsN_lt f n
    have ih := bitsN_bit f n
    rw [bitsN]
    by_cases hf : f n = true
    · rw [if_pos hf, Nat.add_comm]
      by_cases hj : j < n
      · rw [Nat.testBit_two_pow_add_gt hj, ih, decide_eq_true hj, decide_eq_true (by (first | lia | omega) : j < n + 1)]
      · by_cases e : j = n
        · subst e
          rw [Nat.testBit_two_pow_add_eq, Nat.testBit_lt_two_pow hl, decide_eq_true (by (first | lia | omega) : j < j + 1), hf]; rfl
        · rw [decide_eq_false (by (first | lia | omega) : ¬ j < n + 1), Bool.false_and]
          apply Nat.testBit_lt_two_pow
          have : 2 ^ (n + 1) ≤ 2 ^ j := Nat.pow_le_pow_right (by decide) (by (first | lia | omega))
          rw [Nat.pow_succ] at this; (first | lia | omega)
    · rw [if_neg hf, Nat.add_zero, ih]
      by_cases hj : j < n
      · rw [decide_eq_true hj, decide_eq_true (by (first | lia | omega) : j < n + 1)]
      · by_cases e : j = n
        · subst e
          simp only [Bool.not_eq_true] at hf
          rw [decide_eq_false hj, hf]; simp
        · rw [decide_eq_false hj, decide_eq_false (by (first | lia | omega) : ¬ j < n + 1)]

noncomputable def fx (row : Nat → Nat) : Nat → Nat → Nat
  | 0, _ => 0
  | n + 1, x => fx row n x ^^^ (if x.testBit n then row n else 0)
theorem fx_bit (row : Nat → Nat) (x q : Nat) : ∀ n, (fx row n x).testBit q = px (fun p => x.testBit p && (row p).testBit q) n
  | 0 => by simp [fx, px]
  | n + 1 => by
    rw [fx, Nat.testBit_xor, fx_bit row x q n, px]
    cases x.testBit n <;> simp
theorem fx_congr (row : Nat → Nat) {x y : Nat} : ∀ n, (∀ p, p < n → x.testBit p = y.testBit p) → fx row n x = fx row n y
  | 0, _ => rfl
  | n + 1, h => by rw [fx, fx, fx_congr row n fun p hp => h p (by (first | lia | omega)), h n (by (first | lia | omega))]
noncomputable def cnt (row : Nat → Nat) (n y : Nat) : Nat := (List.range (2 ^ n)).countP fun x => decide (fx row n x = y)
theorem cnt_succ (row : Nat → Nat) (n y : Nat) : cnt row (n + 1) y = cnt row n y + cnt row n (y ^^^ row n) := by
  unfold cnt
  have e : (2 : Nat) ^ (n + 1) = 2 ^ n + 2 ^ n := by rw [Nat.pow_succ]; (first | lia | omega)
  rw [e, List.range_add, List.countP_append, List.countP_map]
  congr 1
  · apply List.countP_congr
    intro x hx
    have hx' := List.mem_range.mp hx
    have : fx row (n + 1) x = fx row n x := by rw [fx, Nat.testBit_lt_two_pow hx']; simp
    rw [this]
  · apply List.countP_congr
    intro x hx
    have hx' := List.mem_range.mp hx
    have : fx row (n + 1) (2 ^ n + x) = fx row n x ^^^ row n := by
      rw [fx, Nat.testBit_two_pow_add_eq, Nat.testBit_lt_two_pow hx']
      rw [fx_congr row n (x := 2 ^ n + x) (y := x) fun p hp => Nat.testBit_two_pow_add_gt hp x]
      simp
    simp only [Function.comp, this, decide_eq_true_eq]
    constructor
    · intro h; rw [← h, Nat.xor_assoc, Nat.xor_self, Nat.xor_zero]
    · intro h; rw [h, Nat.xor_assoc, Nat.xor_self, Nat.xor_zero]
theorem cnt_zero (row : Nat → Nat) (y : Nat) : cnt row 0 y = if y = 0 then 1 else 0 := by
  unfold cnt
  by_cases h : y = 0
  · subst h; rfl
  · rw [if_neg h]
    show List.countP _ [0] = 0
    simp [fx, Ne.symm h]
theorem cnt_shift (row : Nat → Nat) : ∀ (n y : Nat), cnt row n y ≠ 0 → ∀ z, cnt row n (y ^^^ z) = cnt row n z
  | 0, y, h, z => by
    rw [cnt_zero] at h
    have : y = 0 := by
      by_cases e : y = 0
      · exact e
      · rw [if_neg e] at h; exact absurd rfl h
    subst this; rw [Nat.zero_xor]
  | n + 1, y, h, z => by
    rw [cnt_succ] at h
    rw [cnt_succ, cnt_succ, Nat.xor_assoc]
    by_cases h1 : cnt row n y = 0
    · have h2 : cnt row n (y ^^^ row n) ≠ 0 := by (first | lia | omega)
      have e1 : y ^^^ z = (y ^^^ row n) ^^^ (z ^^^ row n) := by
        rw [Nat.xor_assoc, ← Nat.xor_assoc (row n), Nat.xor_comm (row n), Nat.xor_assoc z, Nat.xor_self, Nat.xor_zero]
      have e2 : y ^^^ (z ^^^ row n) = (y ^^^ row n) ^^^ z := by rw [Nat.xor_assoc, Nat.xor_comm z]
      rw [e1, e2, cnt_shift row n _ h2, cnt_shift row n _ h2, Nat.add_comm]
    · rw [cnt_shift row n y h1, cnt_shift row n y h1]

noncomputable def redN (l o : Nat) : Nat := min l (l ^^^ o)
theorem xor_zero_iff {a c : Nat} : a ^^^ c = 0 ↔ a = c := by
  constructor
  · intro h
    have : a ^^^ c ^^^ c = c := by rw [h, Nat.zero_xor]
    rw [Nat.xor_assoc, Nat.xor_self, Nat.xor_zero] at this
    exact this
  · rintro rfl; exact Nat.xor_self a
theorem redN_zero {x o : Nat} : redN x o = 0 ↔ x = 0 ∨ x = o := by
  unfold redN
  constructor
  · intro h
    by_cases hx : x = 0
    · exact .inl hx
    · have : x ^^^ o = 0 := by (first | lia | omega)
      exact .inr (xor_zero_iff.mp this)
  · rintro (h | h)
    · subst h; simp
    · subst h; simp

noncomputable def redB (basis : List Nat) (x : Nat) : Nat := basis.foldl redN x
noncomputable def rkStep (basis : List Nat) (row : Nat) : List Nat := if redB basis row ≠ 0 then basis ++ [redB basis row] else basis
noncomputable def bas (row : Nat → Nat) : Nat → List Nat
  | 0 => []
  | n + 1 => rkStep (bas row n) (row n)
theorem redB_snoc (bs : List Nat) (o x : Nat) : redB (bs ++ [o]) x = redN (redB bs x) o := by simp [redB]

structure Span (row : Nat → Nat) (n : Nat) : Prop where
  lt : ∀ o ∈ bas row n, o < 32
  iff : ∀ y, y < 32 → (cnt row n y ≠ 0 ↔ redB (bas row n) y = 0)
  size : cnt row n 0 * 2 ^ (bas row n).length = 2 ^ n
end Mine
set_option Elab.async false
set_option autoImplicit false
set_option linter.unusedVariables false
namespace Mine

noncomputable def isDot : List Bool → Bool
  | true :: _ => true
  | _ => false
noncomputable def bareB (F : List (List Bool)) : List (List Bool) := (F.filter fun r => !isDot r).map List.tail
noncomputable def dotB (F : List (List Bool)) : List (List Bool) := (F.filter fun r => isDot r).map List.tail
noncomputable def eitherB (F : List (List Bool)) : List (List Bool) := bareB F ++ (dotB F).filter fun r => !(bareB F).contains r
noncomputable def bothB (F : List (List Bool)) : List (List Bool) := (dotB F).filter fun r => (bareB F).contains r
noncomputable def kept : Nat → List (List Bool) → List Nat
  | 0, F => F.map fun _ => 0
  | m + 1, F => kept m (eitherB F) ++ (kept m (bothB F)).map fun i => 2 ^ m + i

noncomputable def inc : Nat → Nat → List Bool → Bool
  | 0, _, _ => true
  | m + 1, i, b :: f => if i < 2 ^ m then inc m i f else b && inc m (i - 2 ^ m) f
  | _ + 1, _, [] => false
theorem inc_lo {m i : Nat} (h : i < 2 ^ m) (b : Bool) (f : List Bool) : inc (m + 1) i (b :: f) = inc m i f := by rw [inc, if_pos h]
theorem inc_hi (m i : Nat) (b : Bool) (f : List Bool) : inc (m + 1) (2 ^ m + i) (b :: f) = (b && inc m i f) := by
  rw [inc, if_neg (by (first | lia | omega)), Nat.add_sub_cancel_left]

structure Fam (m : Nat) (F : List (List Bool)) : Prop where
  nd : F.Nodup
  len : ∀ r ∈ F, r.length = m

section
variable {m : Nat} {F : List (List Bool)}
theorem mem_bareB (hL : ∀ r ∈ F, r.length = m + 1) (r : List Bool) : r ∈ bareB F ↔ (false :: r) ∈ F := by
  unfold bareB
  rw [List.mem_map]
  constructor
  · rintro ⟨x, hx, rfl⟩
    obtain ⟨h1, h2⟩ := List.mem_filter.mp hx
    have hl := hL x h1
    cases x with
    | nil => simp at hl
    | cons b x => cases b
                  · exact h1
                  · simp [isDot] at h2
  · intro hr
    exact ⟨false :: r, List.mem_filter.mpr ⟨hr, rfl⟩, rfl⟩
theorem mem_dotB (hL : ∀ r ∈ F, r.length = m + 1) (r : List Bool) : r ∈ dotB F ↔ (true :: r) ∈ F := by
  unfold dotB
  rw [List.mem_map]
  constructor
  · rintro ⟨x, hx, rfl⟩
    obtain ⟨h1, h2⟩ := List.mem_filter.mp hx
    have hl := hL x h1
    cases x with
    | nil => simp at hl
    | cons b x => cases b
                  · simp [isDot] at h2
                  · exact h1
  · intro hr
    exact ⟨true :: r, List.mem_filter.mpr ⟨hr, rfl⟩, rfl⟩
theorem Fam.bare (h : Fam (m + 1) F) (r : List Bool) : r ∈ bareB F ↔ (false :: r) ∈ F := mem_bareB h.len r
theorem Fam.dot (h : Fam (m + 1) F) (r : List Bool) : r ∈ dotB F ↔ (true :: r) ∈ F := mem_dotB h.len r
theorem Fam.either (h : Fam (m + 1) F) (r : List Bool) : r ∈ eitherB F ↔ (false :: r) ∈ F ∨ (true :: r) ∈ F := by
  unfold eitherB
  rw [List.mem_append, List.mem_filter, h.bare, h.dot]
  by_cases hb : (false :: r) ∈ F
  · simp [hb]
  · have : r ∉ bareB F := fun h' => hb ((h.bare r).mp h')
    simp [hb, this]
theorem Fam.both (h : Fam (m + 1) F) (r : List Bool) : r ∈ bothB F ↔ (false :: r) ∈ F ∧ (true :: r) ∈ F := by
  unfold bothB
  rw [List.mem_filter, h.dot]
  simp only [List.contains_iff_mem]
  rw [h.bare, And.comm]

theorem tail_nodup (p : List Bool → Bool) (b : Bool) (hp : ∀ x, p x = true → x ∈ F → ∃ r, x = b :: r) (nd : F.Nodup) : ((F.filter p).map List.tail).Nodup := by
  induction F with
  | nil => exact List.nodup_nil
  | cons x F ih =>
    have hx := List.nodup_cons.mp nd
    have ih' := ih (fun y h1 h2 => hp y h1 (.tail _ h2)) hx.2
    rw [List.filter_cons]
    split
    · rename_i hpx
      rw [List.map_cons, List.nodup_cons]
      refine ⟨fun hm => ?_, ih'⟩
      obtain ⟨y, hy, e⟩ := List.mem_map.mp hm
      obtain ⟨h1, h2⟩ := List.mem_filter.mp hy
      obtain ⟨r, rfl⟩ := hp x hpx (.head _)
      obtain ⟨r', rfl⟩ := hp y h2 (.tail _ h1)
      simp at e
      subst e
      exact hx.1 h1
    · exact ih'
theorem Fam.bareNd (h : Fam (m + 1) F) : (bareB F).Nodup := tail_nodup _ false (fun x hp hx => by
  have hl := h.len x hx
  cases x with
  | nil => simp at hl
  | cons b x => cases b
                · exact ⟨x, rfl⟩
                · simp [isDot] at hp) h.nd
theorem Fam.dotNd (h : Fam (m + 1) F) : (dotB F).Nodup := tail_nodup _ true (fun x hp hx => by
  have hl := h.len x hx
  cases x with
  | nil => simp at hl
  | cons b x => cases b
                · simp [isDot] at hp
                · exact ⟨x, rfl⟩) h.nd
theorem Fam.eitherF (h : Fam (m + 1) F) : Fam m (eitherB F) where
  nd := List.nodup_append.mpr ⟨h.bareNd, h.dotNd.sublist List.filter_sublist, fun a ha b hb => by
    rintro rfl
    have := (List.mem_filter.mp hb).2
    simp [ha] at this⟩
  len := fun r hr => by
    rcases (h.either r).mp hr with h' | h' <;> · have := h.len _ h'; simpa using this
theorem Fam.bothF (h : Fam (m + 1) F) : Fam m (bothB F) where
  nd := h.dotNd.sublist List.filter_sublist
  len := fun r hr => by have := h.len _ ((h.both r).mp hr).1; simpa using this

theorem filter_two {α : Type} (p : α → Bool) (l : List α) : (l.filter p).length + (l.filter fun x => !p x).length = l.length := by
  induction l with
  | nil => rfl
  | cons x l ih => rw [List.filter_cons, List.filter_cons]; cases p x <;> simp <;> (first | lia | omega)
theorem split_len (F : List (List Bool)) : (eitherB F).length + (bothB F).length = F.length := by
  unfold eitherB bothB
  have h1 := filter_two (fun r => (bareB F).contains r) (dotB F)
  have h2 := filter_two (fun r => isDot r) F
  have h3 : (bareB F).length = (F.filter fun r => !isDot r).length := by simp [bareB]
  have h4 : (dotB F).length = (F.filter fun r => isDot r).length := by simp [dotB]
  rw [List.length_append]
  (first | lia | omega)
end

theorem kept_len : ∀ (m : Nat) (F : List (List Bool)), (kept m F).length = F.length
  | 0, F => by simp [kept]
  | m + 1, F => by rw [kept, List.length_append, List.length_map, kept_len m, kept_len m, split_len]
theorem kept_lt : ∀ (m : Nat) (F : List (List Bool)), ∀ i ∈ kept m F, i < 2 ^ m
  | 0, F, i, h => by obtain ⟨_, _, rfl⟩ := List.mem_map.mp h; decide
  | m + 1, F, i, h => by
    rw [Nat.pow_succ]
    rcases List.mem_append.mp h with h | h
    · have := kept_lt m _ i h; (first | lia | omega)
    · obtain ⟨j, hj, rfl⟩ := List.mem_map.mp h
      have := kept_lt m _ j hj; (first | lia | omega)

theorem kept_shat : ∀ (m : Nat) (F : List (List Bool)), Fam m F → ∀ i ∈ kept m F, ∀ t : List Bool, t.length = m → ∃ f ∈ F, ∀ k, k < m → i.testBit (m - 1 - k) = true → f[k]? = t[k]?
  | 0, F, _, i, h, t, _ => by
    obtain ⟨f, hf, _⟩ := List.mem_map.mp h
    exact ⟨f, hf, fun k hk => by (first | lia | omega)⟩
  | m + 1, F, hF, i, h, t, ht => by
    cases t with
    | nil => simp at ht
    | cons b t =>
      have ht' : t.length = m := by simpa using ht
      rcases List.mem_append.mp h with h | h
      · obtain ⟨f, hf, hk⟩ := kept_shat m _ hF.eitherF i h t ht'
        have hi := kept_lt m _ i h
        have fin : ∀ c, (c :: f) ∈ F → ∃ f ∈ F, ∀ k, k < m + 1 → i.testBit (m + 1 - 1 - k) = true → f[k]? = (b :: t)[k]? := fun c hc => by
          refine ⟨_, hc, fun k hkm hb => ?_⟩
          cases k with
          | zero =>
            rw [Nat.testBit_lt_two_pow (by simpa using hi)] at hb; cases hb
          | succ k =>
            simp only [List.getElem?_cons_succ]
            exact hk k (by (first | lia | omega)) (by rw [show m - 1 - k = m + 1 - 1 - (k + 1) by (first | lia | omega)]; exact hb)
        rcases (hF.either f).mp hf with h' | h'
        · exact fin _ h'
        · exact fin _ h'
      · obtain ⟨j, hj, rfl⟩ := List.mem_map.mp h
        have hjl := kept_lt m _ j hj
        obtain ⟨f, hf, hk⟩ := kept_shat m _ hF.bothF j hj t ht'
        obtain ⟨h1, h2⟩ := (hF.both f).mp hf
        refine ⟨b :: f, by cases b <;> assumption, fun k hkm hb => ?_⟩
        cases k with
        | zero => rfl
        | succ k =>
          simp only [List.getElem?_cons_succ]
          refine hk k (by (first | lia | omega)) ?_
          rw [← hb, show m + 1 - 1 - (k + 1) = m - 1 - k by (first | lia | omega), Nat.testBit_two_pow_add_gt (by (first | lia | omega))]

noncomputable def Dep (m : Nat) (F : List (List Bool)) (i : Nat) : Prop := ∃ s : Nat → Bool, ∀ f ∈ F, inc m i f = px (fun j => s j && inc m j f) i
theorem px_add (f : Nat → Bool) (a : Nat) : ∀ c, px f (a + c) = (px f a).xor (px (fun i => f (a + i)) c)
  | 0 => by simp [px]
  | c + 1 => by rw [← Nat.add_assoc, px, px_add f a c, px, Bool.xor_assoc]

theorem mobius : ∀ (m : Nat) (g : List Bool → Bool), ∃ s : Nat → Bool, ∀ f : List Bool, f.length = m → g f = px (fun i => s i && inc m i f) (2 ^ m)
  | 0, g => ⟨fun _ => g [], fun f hf => by
      have : f = [] := List.length_eq_zero_iff.mp hf
      subst this
      simp [px, inc]⟩
  | m + 1, g => by
    obtain ⟨s0, h0⟩ := mobius m fun f => g (false :: f)
    obtain ⟨s1, h1⟩ := mobius m fun f => (g (false :: f)).xor (g (true :: f))
    refine ⟨fun i => if i < 2 ^ m then s0 i else s1 (i - 2 ^ m), fun f hf => ?_⟩
    cases f with
    | nil => simp at hf
    | cons b f =>
      have hf' : f.length = m := by simpa using hf
      rw [show 2 ^ (m + 1) = 2 ^ m + 2 ^ m by rw [Nat.pow_succ]; (first | lia | omega), px_add]
      rw [px_congr (f := fun i => (if i < 2 ^ m then s0 i else s1 (i - 2 ^ m)) && inc (m + 1) i (b :: f)) (g := fun i => s0 i && inc m i f) _ fun i hi => by simp only [if_pos hi, inc_lo hi]]
      rw [px_congr (f := fun i => (if 2 ^ m + i < 2 ^ m then s0 (2 ^ m + i) else s1 (2 ^ m + i - 2 ^ m)) && inc (m + 1) (2 ^ m + i) (b :: f)) (g := fun i => b && (s1 i && inc m i f)) _ fun i hi => by
        rw [if_neg (by (first | lia | omega)), Nat.add_sub_cancel_left, inc_hi]
        cases s1 i <;> cases b <;> rfl]
      rw [px_and, ← h0 f hf', ← h1 f hf']
      cases b <;> cases g (false :: f) <;> cases g (true :: f) <;> rfl

theorem dep_lo {m i : Nat} {F : List (List Bool)} (hF : Fam (m + 1) F) (hi : i < 2 ^ m) : Dep (m + 1) F i ↔ Dep m (eitherB F) i := by
  have key : ∀ (s : Nat → Bool) (b : Bool) (f : List Bool), (inc (m + 1) i (b :: f) = px (fun j => s j && inc (m + 1) j (b :: f)) i) ↔ (inc m i f = px (fun j => s j && inc m j f) i) := fun s b f => by
    rw [inc_lo hi, px_congr (g := fun j => s j && inc m j f) i fun j hj => by rw [inc_lo (by (first | lia | omega))]]
  constructor
  · rintro ⟨s, h⟩
    refine ⟨s, fun f hf => ?_⟩
    rcases (hF.either f).mp hf with h' | h'
    · exact (key s _ f).mp (h _ h')
    · exact (key s _ f).mp (h _ h')
  · rintro ⟨s, h⟩
    refine ⟨s, fun x hx => ?_⟩
    have hl := hF.len x hx
    cases x with
    | nil => simp at hl
    | cons b f =>
      refine (key s b f).mpr (h f ((hF.either f).mpr ?_))
      cases b
      · exact .inl hx
      · exact .inr hx
theorem dep_hi {m i : Nat} {F : List (List Bool)} (hF : Fam (m + 1) F) (hi : i < 2 ^ m) : Dep (m + 1) F (2 ^ m + i) ↔ Dep m (bothB F) i := by
  have key : ∀ (s : Nat → Bool) (b : Bool) (f : List Bool), px (fun j => s j && inc (m + 1) j (b :: f)) (2 ^ m + i) = (px (fun j => s j && inc m j f) (2 ^ m)).xor (b && px (fun j => s (2 ^ m + j) && inc m j f) i) := fun s b f => by
    rw [px_add, px_congr (g := fun j => s j && inc m j f) (2 ^ m) fun j hj => by rw [inc_lo hj], ← px_and]
    congr 1
    apply px_congr
    intro j _
    rw [inc_hi]
    cases s (2 ^ m + j) <;> cases b <;> rfl
  constructor
  · rintro ⟨s, h⟩
    refine ⟨fun j => s (2 ^ m + j), fun f hf => ?_⟩
    obtain ⟨h1, h2⟩ := (hF.both f).mp hf
    have a1 := h _ h1
    have a2 := h _ h2
    rw [inc_hi, key] at a1 a2
    rw [Bool.false_and, Bool.false_and, Bool.xor_false] at a1
    rw [← a1, Bool.true_and, Bool.true_and, Bool.false_xor] at a2
    exact a2
  · rintro ⟨s, h⟩
    obtain ⟨s0, h0⟩ := mobius m fun f => (!decide ((false :: f) ∈ F)) && ((inc m i f).xor (px (fun j => s j && inc m j f) i))
    refine ⟨fun j => if j < 2 ^ m then s0 j else s (j - 2 ^ m), fun x hx => ?_⟩
    have hl := hF.len x hx
    cases x with
    | nil => simp at hl
    | cons b f =>
      have hf : f.length = m := by simpa using hl
      rw [inc_hi, key, px_congr (g := fun j => s0 j && inc m j f) (2 ^ m) fun j hj => by rw [if_pos hj], px_congr (f := fun j => (if 2 ^ m + j < 2 ^ m then s0 (2 ^ m + j) else s (2 ^ m + j - 2 ^ m)) && inc m j f) (g := fun j => s j && inc m j f) i fun j _ => by rw [if_neg (by (first | lia | omega)), Nat.add_sub_cancel_left], ← h0 f hf]
      by_cases hfm : (false :: f) ∈ F
      · rw [decide_eq_true hfm]
        cases b
        · rfl
        · have := h f ((hF.both f).mpr ⟨hfm, hx⟩)
          rw [← this]; simp
      · rw [decide_eq_false hfm]
        cases b
        · exact absurd hx hfm
        · cases inc m i f <;> cases px (fun j => s j && inc m j f) i <;> rfl

theorem kept_dep : ∀ (m : Nat) (F : List (List Bool)), Fam m F → ∀ p : Nat → Bool, (∀ i, i < 2 ^ m → (p i = true ↔ ¬ Dep m F i)) → kept m F = (List.range (2 ^ m)).filter p
  | 0, F, hF, p, hp => by
    have h0 := hp 0 (by decide)
    have hd : Dep 0 F 0 ↔ F = [] := by
      constructor
      · rintro ⟨s, h⟩
        cases F with
        | nil => rfl
        | cons f F => have := h f (.head _); simp [inc, px] at this
      · rintro rfl
        exact ⟨fun _ => false, fun f hf => by cases hf⟩
    rw [hd] at h0
    show F.map (fun _ => 0) = List.filter p [0]
    cases F with
    | nil =>
      have : p 0 = false := by simpa using h0
      simp [this]
    | cons f F =>
      have hp0 : p 0 = true := h0.mpr (by simp)
      cases F with
      | nil => simp [hp0]
      | cons g F =>
        exfalso
        have h1 := hF.len f (.head _)
        have h2 := hF.len g (.tail _ (.head _))
        have h3 := hF.nd
        rw [List.length_eq_zero_iff.mp h1, List.length_eq_zero_iff.mp h2] at h3
        simp at h3
  | m + 1, F, hF, p, hp => by
    have e : 2 ^ (m + 1) = 2 ^ m + 2 ^ m := by rw [Nat.pow_succ]; (first | lia | omega)
    rw [kept, e, List.range_add, List.filter_append, List.filter_map]
    rw [← kept_dep m _ hF.eitherF p fun i hi => by rw [hp i (by (first | lia | omega)), dep_lo hF hi]]
    rw [← kept_dep m _ hF.bothF (p ∘ fun i => 2 ^ m + i) fun i hi => by
      show p (2 ^ m + i) = true ↔ _
      rw [hp _ (by (first | lia | omega)), dep_hi hF hi]]
end Mine
set_option Elab.async false
set_option autoImplicit false
set_option linter.unusedVariables false
namespace Mine

noncomputable def ind (b : Bool) : Int := if b then 1 else 0
noncomputable def lin (L : List Nat) (a : Nat → Int) (m : Nat) (f : List Bool) : Int := (L.map fun i => a i * ind (inc m i f)).sum
theorem lin_append (L L' : List Nat) (a : Nat → Int) (m : Nat) (f : List Bool) : lin (L ++ L') a m f = lin L a m f + lin L' a m f := by simp [lin]
theorem lin_congr {L : List Nat} {a c : Nat → Int} {m : Nat} {f : List Bool} (h : ∀ i ∈ L, a i = c i) : lin L a m f = lin L c m f := by
  unfold lin
  rw [List.map_congr_left fun i hi => by rw [h i hi]]
theorem lin_zero {L : List Nat} {a : Nat → Int} {m : Nat} {f : List Bool} (h : ∀ i ∈ L, a i = 0) : lin L a m f = 0 := by
  induction L with
  | nil => rfl
  | cons x L ih =>
    have := ih fun i hi => h i (.tail _ hi)
    unfold lin at this ⊢
    rw [List.map_cons, List.sum_cons, this, h x (.head _)]; simp
theorem lin_lo {L : List Nat} {a : Nat → Int} {m : Nat} (h : ∀ i ∈ L, i < 2 ^ m) (b : Bool) (f : List Bool) : lin L a (m + 1) (b :: f) = lin L a m f := by
  unfold lin
  rw [List.map_congr_left fun i hi => by rw [inc_lo (h i hi)]]
theorem lin_hi (L : List Nat) (a : Nat → Int) (m : Nat) (b : Bool) (f : List Bool) : lin (L.map fun i => 2 ^ m + i) a (m + 1) (b :: f) = if b then lin L (fun i => a (2 ^ m + i)) m f else 0 := by
  unfold lin
  rw [List.map_map]
  cases b
  · show _ = (0 : Int)
    induction L with
    | nil => rfl
    | cons x L ih => rw [List.map_cons, List.sum_cons, ih]; simp [inc_hi, ind]
  · show _ = (L.map fun i => a (2 ^ m + i) * ind (inc m i f)).sum
    congr 1
    apply List.map_congr_left
    intro i _
    simp [inc_hi]
theorem lin_add (L : List Nat) (a c : Nat → Int) (x y : Int) (m : Nat) (f : List Bool) : lin L (fun i => x * a i + y * c i) m f = x * lin L a m f + y * lin L c m f := by
  induction L with
  | nil => simp [lin]
  | cons i L ih =>
    unfold lin at ih ⊢
    rw [List.map_cons, List.sum_cons, ih, List.map_cons, List.sum_cons, List.map_cons, List.sum_cons, Int.mul_add, Int.mul_add, Int.add_mul]
    rw [Int.mul_assoc, Int.mul_assoc]
    (first | lia | omega)

noncomputable def halves (m : Nat) (a0 a1 : Nat → Int) (i : Nat) : Int := if i < 2 ^ m then a0 i else a1 (i - 2 ^ m)
theorem lin_halves {K0 K1 : List Nat} {m : Nat} (a0 a1 : Nat → Int) (h0 : ∀ i ∈ K0, i < 2 ^ m) (b : Bool) (f : List Bool) :
    lin (K0 ++ K1.map fun i => 2 ^ m + i) (halves m a0 a1) (m + 1) (b :: f) = lin K0 a0 m f + if b then lin K1 a1 m f else 0 := by
  rw [lin_append, lin_lo h0, lin_hi, lin_congr (a := halves m a0 a1) (c := a0) fun i hi => by unfold halves; rw [if_pos (h0 i hi)]]
  rw [lin_congr (a := fun i => halves m a0 a1 (2 ^ m + i)) (c := a1) fun i _ => by unfold halves; rw [if_neg (by (first | lia | omega)), Nat.add_sub_cancel_left]]
theorem lin_split {K0 K1 : List Nat} {m : Nat} (a : Nat → Int) (h0 : ∀ i ∈ K0, i < 2 ^ m) (b : Bool) (f : List Bool) :
    lin (K0 ++ K1.map fun i => 2 ^ m + i) a (m + 1) (b :: f) = lin K0 a m f + if b then lin K1 (fun i => a (2 ^ m + i)) m f else 0 := by
  rw [lin_append, lin_lo h0, lin_hi]

theorem fam_cons {m : Nat} {F : List (List Bool)} (hF : Fam (m + 1) F) {x : List Bool} (hx : x ∈ F) : ∃ b f, x = b :: f ∧ f ∈ eitherB F := by
  have hl := hF.len x hx
  cases x with
  | nil => simp at hl
  | cons b f =>
    refine ⟨b, f, rfl, (hF.either f).mpr ?_⟩
    cases b
    · exact .inl hx
    · exact .inr hx

theorem span_all : ∀ (m : Nat) (F : List (List Bool)), Fam m F → ∀ v : List Bool → Int, ∃ a, ∀ f ∈ F, lin (kept m F) a m f = v f
  | 0, F, hF, v => by
    refine ⟨fun _ => v [], fun f hf => ?_⟩
    have e := List.length_eq_zero_iff.mp (hF.len f hf)
    subst e
    cases F with
    | nil => cases hf
    | cons g F =>
      cases F with
      | nil => simp [kept, lin, inc, ind]
      | cons g' F =>
        exfalso
        have h1 := hF.len g (.head _)
        have h2 := hF.len g' (.tail _ (.head _))
        have h3 := hF.nd
        rw [List.length_eq_zero_iff.mp h1, List.length_eq_zero_iff.mp h2] at h3
        simp at h3
  | m + 1, F, hF, v => by
    obtain ⟨a1, h1⟩ := span_all m _ hF.bothF fun f => v (true :: f) - v (false :: f)
    obtain ⟨a0, h0⟩ := span_all m _ hF.eitherF fun f => if (false :: f) ∈ F then v (false :: f) else v (true :: f) - lin (kept m (bothB F)) a1 m f
    refine ⟨halves m a0 a1, fun x hx => ?_⟩
    obtain ⟨b, f, rfl, hf⟩ := fam_cons hF hx
    rw [kept, lin_halves a0 a1 (kept_lt m _), h0 f hf]
    by_cases hm : (false :: f) ∈ F
    · rw [if_pos hm]
      cases b
      · simp
      · rw [if_pos rfl, h1 f ((hF.both f).mpr ⟨hm, hx⟩)]; (first | lia | omega)
    · rw [if_neg hm]
      cases b
      · exact absurd hx hm
      · rw [if_pos rfl]; (first | lia | omega)

theorem kept_free : ∀ (m : Nat) (F : List (List Bool)), Fam m F → ∀ a, (∀ f ∈ F, lin (kept m F) a m f = 0) → ∀ i ∈ kept m F, a i = 0
  | 0, F, hF, a, h, i, hi => by
    obtain ⟨f, hf, rfl⟩ := List.mem_map.mp hi
    have e := List.length_eq_zero_iff.mp (hF.len f hf)
    subst e
    have h0 := h [] hf
    cases F with
    | nil => cases hf
    | cons g F =>
      cases F with
      | nil => simpa [kept, lin, inc, ind] using h0
      | cons g' F =>
        exfalso
        have h1 := hF.len g (.head _)
        have h2 := hF.len g' (.tail _ (.head _))
        have h3 := hF.nd
        rw [List.length_eq_zero_iff.mp h1, List.length_eq_zero_iff.mp h2] at h3
        simp at h3
  | m + 1, F, hF, a, h, i, hi => by
    have hs : ∀ (b : Bool) (f : List Bool), (b :: f) ∈ F → lin (kept m (eitherB F)) a m f + (if b then lin (kept m (bothB F)) (fun i => a (2 ^ m + i)) m f else 0) = 0 := fun b f hf => by
      have := h _ hf
      rwa [kept, lin_split a (kept_lt m _)] at this
    have h1 := kept_free m _ hF.bothF (fun i => a (2 ^ m + i)) fun f hf => by
      obtain ⟨x1, x2⟩ := (hF.both f).mp hf
      have a1 := hs _ _ x1
      have a2 := hs _ _ x2
      simp at a1 a2
      (first | lia | omega)
    have h0 := kept_free m _ hF.eitherF a fun f hf => by
      have hz : lin (kept m (bothB F)) (fun i => a (2 ^ m + i)) m f = 0 := lin_zero h1
      rcases (hF.either f).mp hf with x | x
      · have a1 := hs _ _ x
        simpa using a1
      · have a1 := hs _ _ x
        simp [hz] at a1
        exact a1
    rcases List.mem_append.mp hi with hi | hi
    · exact h0 i hi
    · obtain ⟨j, hj, rfl⟩ := List.mem_map.mp hi
      exact h1 j hj

theorem kept_nodup (m : Nat) (F : List (List Bool)) (hF : Fam m F) : (kept m F).Nodup := by
  have : ∃ p : Nat → Bool, ∀ i, p i = true ↔ ¬ Dep m F i := by
    refine ⟨fun i => @decide (¬ Dep m F i) (Classical.propDecidable _), fun i => ?_⟩
    exact @decide_eq_true_iff _ (Classical.propDecidable _)
  obtain ⟨p, hp⟩ := this
  rw [kept_dep m F hF p fun i _ => hp i]
  exact List.nodup_range.sublist List.filter_sublist

theorem len_le {α : Type} [DecidableEq α] : ∀ {l l' : List α}, l.Nodup → (∀ x ∈ l, x ∈ l') → l.length ≤ l'.length
  | [], _, _, _ => Nat.zero_le _
  | x :: l, l', nd, h => by
    have hp := List.nodup_cons.mp nd
    have hx := h x (.head _)
    have ih := len_le (l := l) (l' := l'.erase x) hp.2 fun y hy => by
      have hne : y ≠ x := fun e => hp.1 (e ▸ hy)
      exact (List.mem_erase_of_ne hne).mpr (h y (.tail _ hy))
    rw [List.length_erase_of_mem hx] at ih
    have : 0 < l'.length := List.length_pos_of_mem hx
    rw [List.length_cons]; (first | lia | omega)
theorem filter_cover {α : Type} (p q : α → Bool) : ∀ l : List α, (∀ x ∈ l, (p x || q x) = true) → (l.filter p).length + (l.filter q).length = l.length + (l.filter fun x => p x && q x).length
  | [], _ => rfl
  | x :: l, h => by
    have ih := filter_cover p q l fun y hy => h y (.tail _ hy)
    have hx := h x (.head _)
    rw [List.filter_cons, List.filter_cons, List.filter_cons]
    cases hp : p x <;> cases hq : q x <;> simp [hp, hq] at hx ⊢ <;> (first | lia | omega)

noncomputable def Sm (x : Int) : Prop := x = 0 ∨ x = 1 ∨ x = -1
theorem Sm.neg {x : Int} (h : Sm x) : Sm (-x) := by rcases h with h | h | h <;> subst h; exact .inl rfl; exact .inr (.inr rfl); exact .inr (.inl rfl)

theorem uni : ∀ (m : Nat) (F : List (List Bool)), Fam m F → ∀ j, j < (kept m F).length → ∀ C : List (List Bool), (∀ c ∈ C, c ∈ F) → C.length ≤ j →
    (∀ a, (∀ c ∈ C, lin ((kept m F).take j) a m c = 0) → ∀ f ∈ F, lin ((kept m F).take j) a m f = 0) →
    ∀ b : Nat → Int, (∀ i, (kept m F)[j]? = some i → b i = 1 ∨ b i = -1) → (∀ c ∈ C, lin ((kept m F).take (j + 1)) b m c = 0) → ∀ f ∈ F, Sm (lin ((kept m F).take (j + 1)) b m f)
  | 0, F, hF, j, hj, C, hC, hl, hi, b, hb, hz, f, hf => by
    have e := List.length_eq_zero_iff.mp (hF.len f hf)
    subst e
    cases F with
    | nil => cases hf
    | cons g F =>
      cases F with
      | nil =>
        have : j = 0 := by simp [kept] at hj; exact hj
        subst this
        have := hb 0 rfl
        simp only [kept, List.map_cons, List.map_nil, List.take_succ_cons, List.take_nil, lin, inc, ind, List.sum_cons, List.sum_nil]
        rcases this with h | h
        · exact .inr (.inl (by rw [h]; rfl))
        · exact .inr (.inr (by rw [h]; rfl))
      | cons g' F =>
        exfalso
        have h1 := hF.len g (.head _)
        have h2 := hF.len g' (.tail _ (.head _))
        have h3 := hF.nd
        rw [List.length_eq_zero_iff.mp h1, List.length_eq_zero_iff.mp h2] at h3
        simp at h3
  | m + 1, F, hF, j, hj, C, hC, hl, hi, b, hb, hz, f, hf => by
    obtain ⟨K0, hK0⟩ : ∃ K, K = kept m (eitherB F) := ⟨_, rfl⟩
    obtain ⟨K1, hK1⟩ : ∃ K, K = kept m (bothB F) := ⟨_, rfl⟩
    have hlt0 : ∀ i ∈ K0, i < 2 ^ m := hK0 ▸ kept_lt m _
    have hk : kept (m + 1) F = K0 ++ K1.map fun i => 2 ^ m + i := by rw [hK0, hK1]; rfl
    have hCl : ∀ r ∈ C, r.length = m + 1 := fun r hr => hF.len r (hC r hr)
    rw [hk] at hj hi hb hz ⊢
    rcases Nat.lt_or_ge j K0.length with hjl | hjl
    · -- among the first half
      have t1 : (K0 ++ K1.map fun i => 2 ^ m + i).take (j + 1) = K0.take (j + 1) := List.take_append_of_le_length (by (first | lia | omega))
      have t0 : (K0 ++ K1.map fun i => 2 ^ m + i).take j = K0.take j := List.take_append_of_le_length (by (first | lia | omega))
      rw [t1] at hz ⊢
      rw [t0] at hi
      have l1 : ∀ i ∈ K0.take (j + 1), i < 2 ^ m := fun i h => hlt0 i (List.mem_of_mem_take h)
      have l0 : ∀ i ∈ K0.take j, i < 2 ^ m := fun i h => hlt0 i (List.mem_of_mem_take h)
      obtain ⟨e, f, rfl, hfe⟩ := fam_cons hF hf
      rw [lin_lo l1]
      have := uni m _ hF.eitherF j (hK0 ▸ hjl) (C.map List.tail) (fun c hc => by
          obtain ⟨x, hx, rfl⟩ := List.mem_map.mp hc
          obtain ⟨b', f', rfl, h⟩ := fam_cons hF (hC x hx)
          exact h) (by rw [List.length_map]; exact hl) (fun a ha g hg => ?_) b (fun i h => hb i (by rw [List.getElem?_append_left hjl]; exact hK0 ▸ h)) (fun c hc => ?_) f hfe
      · rw [← hK0] at this; exact this
      · rw [← hK0] at ha ⊢
        have h2 := hi a fun c hc => by
          obtain ⟨b', f', rfl, h⟩ := fam_cons hF (hC c hc)
          rw [lin_lo l0]
          exact ha f' (List.mem_map.mpr ⟨_, hc, rfl⟩)
        rcases (hF.either g).mp hg with h3 | h3
        · have := h2 _ h3
          rwa [lin_lo l0] at this
        · have := h2 _ h3
          rwa [lin_lo l0] at this
      · rw [← hK0]
        obtain ⟨x, hx, rfl⟩ := List.mem_map.mp hc
        obtain ⟨b', f', rfl, h⟩ := fam_cons hF (hC x hx)
        have := hz _ hx
        rwa [lin_lo l1] at this
    · -- among the second half
      obtain ⟨l, rfl⟩ : ∃ l, j = K0.length + l := ⟨j - K0.length, by (first | lia | omega)⟩
      have t1 : (K0 ++ K1.map fun i => 2 ^ m + i).take (K0.length + l + 1) = K0 ++ (K1.take (l + 1)).map fun i => 2 ^ m + i := by
        rw [Nat.add_assoc, List.take_length_add_append, List.map_take]
      have t0 : (K0 ++ K1.map fun i => 2 ^ m + i).take (K0.length + l) = K0 ++ (K1.take l).map fun i => 2 ^ m + i := by
        rw [List.take_length_add_append, List.map_take]
      rw [t1] at hz ⊢
      rw [t0] at hi
      have hll : l < K1.length := by rw [List.length_append, List.length_map] at hj; (first | lia | omega)
      obtain ⟨C0, hC0⟩ : ∃ x, x = bareB C := ⟨_, rfl⟩
      obtain ⟨C1, hC1⟩ : ∃ x, x = dotB C := ⟨_, rfl⟩
      have m0 : ∀ r, r ∈ C0 ↔ (false :: r) ∈ C := fun r => hC0 ▸ mem_bareB hCl r
      have m1 : ∀ r, r ∈ C1 ↔ (true :: r) ∈ C := fun r => hC1 ▸ mem_dotB hCl r
      have hlen : C0.length + C1.length = C.length := by
        have := filter_two (fun r => isDot r) C
        rw [hC0, hC1]; simp only [bareB, dotB, List.length_map]; (first | lia | omega)
      -- all of either is met
      have cover : ∀ g ∈ eitherB F, g ∈ C0 ∨ g ∈ C1 := fun g hg => by
        refine Classical.byContradiction fun hn => ?_
        obtain ⟨a0, h0⟩ := span_all m _ hF.eitherF fun x => if x = g then 1 else 0
        rw [← hK0] at h0
        have h2 := hi (halves m a0 fun _ => 0) fun c hc => by
          obtain ⟨b', f', rfl, h⟩ := fam_cons hF (hC c hc)
          rw [lin_halves a0 _ hlt0, h0 f' h, lin_zero fun _ _ => rfl]
          have : f' ≠ g := by
            rintro rfl
            cases b'
            · exact hn (.inl ((m0 _).mpr hc))
            · exact hn (.inr ((m1 _).mpr hc))
          rw [if_neg this]; cases b' <;> rfl
        have h3 : ∀ b', (b' :: g) ∈ F → False := fun b' hm => by
          have := h2 _ hm
          rw [lin_halves a0 _ hlt0, h0 g hg, lin_zero fun _ _ => rfl, if_pos rfl] at this
          cases b' <;> simp at this
        rcases (hF.either g).mp hg with h | h
        · exact h3 _ h
        · exact h3 _ h
      obtain ⟨B, hB⟩ : ∃ x, x = (eitherB F).filter fun x => C0.contains x && C1.contains x := ⟨_, rfl⟩
      have mB : ∀ r, r ∈ B ↔ r ∈ C0 ∧ r ∈ C1 := fun r => by
        rw [hB, List.mem_filter, Bool.and_eq_true, List.contains_iff_mem, List.contains_iff_mem]
        constructor
        · exact fun h => h.2
        · intro h
          exact ⟨(hF.either r).mpr (.inl (hC _ ((m0 r).mp h.1))), h⟩
      have hBl : B.length ≤ l := by
        have h1 := filter_cover (fun x => C0.contains x) (fun x => C1.contains x) (eitherB F) fun x hx => by
          rw [Bool.or_eq_true, List.contains_iff_mem, List.contains_iff_mem]; exact cover x hx
        have h2 : ((eitherB F).filter fun x => C0.contains x).length ≤ C0.length := len_le (hF.eitherF.nd.sublist List.filter_sublist) fun x hx => by
          simpa using (List.mem_filter.mp hx).2
        have h3 : ((eitherB F).filter fun x => C1.contains x).length ≤ C1.length := len_le (hF.eitherF.nd.sublist List.filter_sublist) fun x hx => by
          simpa using (List.mem_filter.mp hx).2
        have h4 : K0.length = (eitherB F).length := by rw [hK0, kept_len]
        rw [← hB] at h1
        (first | lia | omega)
      have inBoth : ∀ r, r ∈ C0 → r ∈ C1 → r ∈ bothB F := fun r h0 h1 => (hF.both r).mpr ⟨hC _ ((m0 r).mp h0), hC _ ((m1 r).mp h1)⟩
      obtain ⟨G, hG⟩ : ∃ G : List Bool → Int, G = lin K0 b m := ⟨_, rfl⟩
      obtain ⟨H, hH⟩ : ∃ H : List Bool → Int, H = lin (K1.take (l + 1)) (fun i => b (2 ^ m + i)) m := ⟨_, rfl⟩
      have val : ∀ (e : Bool) (g : List Bool), lin (K0 ++ (K1.take (l + 1)).map fun i => 2 ^ m + i) b (m + 1) (e :: g) = G g + if e then H g else 0 := fun e g => by rw [lin_split b hlt0, hG, hH]
      have z0 : ∀ g, g ∈ C0 → G g = 0 := fun g hg => by
        have := hz _ ((m0 g).mp hg)
        rw [val] at this; simpa using this
      have z1 : ∀ g, g ∈ C1 → G g + H g = 0 := fun g hg => by
        have := hz _ ((m1 g).mp hg)
        rw [val] at this; simpa using this
      have small : ∀ g ∈ bothB F, Sm (H g) := fun g hg => by
        have := uni m _ hF.bothF l (hK1 ▸ hll) B (fun c hc => by obtain ⟨h0, h1⟩ := (mB c).mp hc; exact inBoth c h0 h1) hBl (fun a ha x hx => ?_) (fun i => b (2 ^ m + i)) (fun i h => hb (2 ^ m + i) ?_) (fun c hc => ?_) g hg
        · rw [← hK1, ← hH] at this; exact this
        · rw [← hK1] at ha ⊢
          obtain ⟨a0, h0⟩ := span_all m _ hF.eitherF fun x => if (false :: x) ∈ C then 0 else - lin (K1.take l) a m x
          rw [← hK0] at h0
          have h2 := hi (halves m a0 a) fun c hc => by
            obtain ⟨e, y, rfl, hy⟩ := fam_cons hF (hC c hc)
            rw [lin_halves a0 a hlt0, h0 y hy]
            cases e
            · rw [if_pos hc]; rfl
            · rw [if_pos rfl]
              by_cases h : (false :: y) ∈ C
              · rw [if_pos h, ha y ((mB y).mpr ⟨(m0 y).mpr h, (m1 y).mpr hc⟩)]; rfl
              · rw [if_neg h]; (first | lia | omega)
          obtain ⟨x1, x2⟩ := (hF.both x).mp hx
          have a1 := h2 _ x1
          have a2 := h2 _ x2
          rw [lin_halves a0 a hlt0] at a1 a2
          simp at a1 a2
          (first | lia | omega)
        · rw [List.getElem?_append_right (by (first | lia | omega)), Nat.add_sub_cancel_left, List.getElem?_map, hK1, h]; rfl
        · obtain ⟨h0, h1⟩ := (mB c).mp hc
          have a0 := z0 c h0
          have a1 := z1 c h1
          rw [← hK1, ← hH]
          (first | lia | omega)
      obtain ⟨e, g, rfl, hge⟩ := fam_cons hF hf
      rw [val]
      by_cases h0 : g ∈ C0
      · rw [z0 g h0]
        cases e
        · exact .inl rfl
        · rw [if_pos rfl, Int.zero_add]
          exact small g ((hF.both g).mpr ⟨hC _ ((m0 g).mp h0), hf⟩)
      · have h1 : g ∈ C1 := (cover g hge).resolve_left h0
        have := z1 g h1
        cases e
        · have e2 : G g = - H g := by (first | lia | omega)
          rw [e2, if_neg (by decide), Int.add_zero]
          exact (small g ((hF.both g).mpr ⟨hf, hC _ ((m1 g).mp h1)⟩)).neg
        · rw [if_pos rfl, this]; exact .inl rfl
end Mine
set_option Elab.async false
set_option autoImplicit false
set_option linter.unusedVariables false
namespace Mine

theorem lin_ne {L : List Nat} {a c : Nat → Int} {m : Nat} {f : List Bool} {k : Nat} (nd : L.Nodup) {j : Nat} (hj : L[j]? = some k) (h : ∀ i, i ∈ L → i ≠ k → a i = c i) : lin L a m f = lin L c m f + (a k - c k) * ind (inc m k f) := by
  induction L generalizing j with
  | nil => simp at hj
  | cons x L ih =>
    have hp := List.nodup_cons.mp nd
    unfold lin at ih ⊢
    rw [List.map_cons, List.sum_cons, List.map_cons, List.sum_cons]
    cases j with
    | zero =>
      simp at hj; subst hj
      have e : (L.map fun i => a i * ind (inc m i f)) = L.map fun i => c i * ind (inc m i f) := List.map_congr_left fun i hi => by rw [h i (.tail _ hi) fun e => hp.1 (e ▸ hi)]
      rw [e, Int.sub_mul]; (first | lia | omega)
    | succ j =>
      simp at hj
      have hx : x ≠ k := fun e => hp.1 (e ▸ List.mem_of_getElem? hj)
      rw [ih hp.2 hj fun i hi => h i (.tail _ hi), h x (.head _) hx]
      (first | lia | omega)

structure Clr where
  c : List Bool
  p : Int
  r : List Bool → Int
noncomputable def Unit1 (x : Int) : Prop := x = 1 ∨ x = -1
theorem Unit1.sq {x : Int} (h : Unit1 x) : x * x = 1 := by rcases h with h | h <;> subst h <;> rfl
theorem Unit1.mul {x y : Int} (h : Unit1 x) (h' : Unit1 y) : Unit1 (x * y) := by
  rcases h with h | h <;> rcases h' with h' | h' <;> subst h <;> subst h'
  · exact .inl rfl
  · exact .inr rfl
  · exact .inr rfl
  · exact .inl rfl

noncomputable def Comb (m : Nat) (F : List (List Bool)) (i j : Nat) (v : List Bool → Int) : Prop :=
  ∃ a : Nat → Int, (∀ f ∈ F, v f = lin (kept m F) a m f) ∧ (∀ l k, (kept m F)[l]? = some k → i ≤ l → l ≠ j → a k = 0) ∧ ∀ k, (kept m F)[j]? = some k → Unit1 (a k)

structure Elim (m : Nat) (F : List (List Bool)) (cl : List Clr) : Prop where
  len : cl.length ≤ F.length
  mem : ∀ (i : Nat) (x : Clr), cl[i]? = some x → x.c ∈ F
  piv : ∀ (i : Nat) (x : Clr), cl[i]? = some x → x.r x.c = x.p ∧ Unit1 x.p
  sm : ∀ (i : Nat) (x : Clr), cl[i]? = some x → ∀ f ∈ F, Sm (x.r f)
  comb : ∀ (i : Nat) (x : Clr), cl[i]? = some x → Comb m F i i x.r
  zero : ∀ (i : Nat) (x : Clr), cl[i]? = some x → ∀ (j : Nat) (y : Clr), j < i → cl[j]? = some y → x.r y.c = 0

section
variable {m : Nat} {F : List (List Bool)} {cl : List Clr}

theorem take_lin (hF : Fam m F) {j : Nat} {a : Nat → Int} {f : List Bool} (h : ∀ l k, (kept m F)[l]? = some k → j ≤ l → a k = 0) : lin ((kept m F).take j) a m f = lin (kept m F) a m f := by
  have e : kept m F = (kept m F).take j ++ (kept m F).drop j := (List.take_append_drop j _).symm
  rw [e, lin_append, ← e]
  have : lin ((kept m F).drop j) a m f = 0 := lin_zero fun i hi => by
    obtain ⟨l, hl⟩ := List.getElem?_of_mem hi
    rw [List.getElem?_drop] at hl
    exact h (j + l) i hl (by (first | lia | omega))
  (first | lia | omega)

theorem Elim.told (E : Elim m F cl) (hF : Fam m F) : ∀ j, j ≤ cl.length → ∀ a : Nat → Int, (∀ l k, (kept m F)[l]? = some k → j ≤ l → a k = 0) → (∀ (i : Nat) (x : Clr), i < j → cl[i]? = some x → lin (kept m F) a m x.c = 0) → ∀ f ∈ F, lin (kept m F) a m f = 0
  | 0, _, a, ha, _, f, hf => lin_zero fun i hi => by
      obtain ⟨l, hl⟩ := List.getElem?_of_mem hi
      exact ha l i hl (Nat.zero_le _)
  | j + 1, hj, a, ha, hz, f, hf => by
    obtain ⟨x, hx⟩ : ∃ x, cl[j]? = some x := ⟨_, List.getElem?_eq_getElem (by (first | lia | omega))⟩
    have hjK : j < (kept m F).length := by rw [kept_len]; have := E.len; (first | lia | omega)
    obtain ⟨k, hk⟩ : ∃ k, (kept m F)[j]? = some k := ⟨_, List.getElem?_eq_getElem hjK⟩
    obtain ⟨b, h1, h2, h3⟩ := E.comb j x hx
    have hu := h3 k hk
    obtain ⟨y, hy⟩ : ∃ y, y = a k * b k := ⟨_, rfl⟩
    have nd := kept_nodup m F hF
    have key : ∀ g ∈ F, lin (kept m F) a m g = lin (kept m F) (fun i => 1 * a i + (-y) * b i) m g + y * x.r g := fun g hg => by
      rw [lin_add, ← h1 g hg, Int.neg_mul]; (first | lia | omega)
    have hk0 : 1 * a k + (-y) * b k = 0 := by
      rw [hy, Int.neg_mul, Int.mul_assoc, hu.sq]; (first | lia | omega)
    have IH := E.told hF j (by (first | lia | omega)) (fun i => 1 * a i + (-y) * b i) (fun l k' hk' hl => by
      by_cases e : l = j
      · subst e; rw [hk] at hk'; cases hk'; exact hk0
      · show 1 * a k' + (-y) * b k' = 0
        rw [ha l k' hk' (by (first | lia | omega)), h2 l k' hk' hl e]; simp) fun i z hi hzi => by
      have e1 := hz i z (by (first | lia | omega)) hzi
      have e2 := key z.c (E.mem i z hzi)
      rw [E.zero j x hx i z hi hzi] at e2
      (first | lia | omega)
    have e3 := key x.c (E.mem j x hx)
    rw [hz j x (by (first | lia | omega)) hx, IH x.c (E.mem j x hx), (E.piv j x hx).1] at e3
    have hy0 : y = 0 := by
      rcases (E.piv j x hx).2 with h | h
      · rw [h] at e3; (first | lia | omega)
      · rw [h] at e3; (first | lia | omega)
    rw [key f hf, IH f hf, hy0]; simp

structure Left (m : Nat) (F : List (List Bool)) (cl : List Clr) (i : Nat) (v : List Bool → Int) : Prop where
  comb : Comb m F i cl.length v
  zero : ∀ (j : Nat) (x : Clr), j < i → cl[j]? = some x → v x.c = 0
  small : ∀ f ∈ F, (v f).natAbs ≤ 2 ^ i
theorem Left.start (hF : Fam m F) {k : Nat} (hk : (kept m F)[cl.length]? = some k) : Left m F cl 0 (fun f => ind (inc m k f)) where
  comb := by
    refine ⟨fun i => if i = k then 1 else 0, fun f hf => ?_, fun l k' hk' _ hne => ?_, fun k' hk' => ?_⟩
    · rw [lin_ne (c := fun _ => 0) (kept_nodup m F hF) hk fun i _ h => if_neg h, lin_zero fun _ _ => rfl]
      simp
    · have : k' ≠ k := fun e => by
        subst e
        have h1 := (List.getElem?_eq_some_iff.mp hk).1
        have h2 := (List.getElem?_eq_some_iff.mp hk').1
        have := (kept_nodup m F hF)
        rw [← hk'] at hk
        exact hne (((List.getElem?_inj h1 this).mp hk).symm)
      exact if_neg this
    · rw [hk] at hk'; cases hk'; exact .inl (if_pos rfl)
  zero := fun j x h => by (first | lia | omega)
  small := fun f _ => by cases inc m k f <;> decide
theorem Left.step (E : Elim m F cl) (hF : Fam m F) {i : Nat} {x : Clr} {v : List Bool → Int} {β : Int} (L : Left m F cl i v) (hx : cl[i]? = some x) (hβ : Unit1 β) : Left m F cl (i + 1) (fun f => β * (x.p * v f - v x.c * x.r f)) where
  comb := by
    obtain ⟨a, a1, a2, a3⟩ := L.comb
    obtain ⟨b, b1, b2, b3⟩ := E.comb i x hx
    have hi := (List.getElem?_eq_some_iff.mp hx).1
    refine ⟨fun l => (β * x.p) * a l + (-(β * v x.c)) * b l, fun f hf => ?_, fun l k hk hl hne => ?_, fun k hk => ?_⟩
    · rw [lin_add, ← a1 f hf, ← b1 f hf]
      show β * (x.p * v f - v x.c * x.r f) = _
      rw [Int.mul_sub, Int.neg_mul, Int.mul_assoc, Int.mul_assoc]; (first | lia | omega)
    · show (β * x.p) * a k + (-(β * v x.c)) * b k = 0
      rw [a2 l k hk (by (first | lia | omega)) hne, b2 l k hk (by (first | lia | omega)) (by (first | lia | omega))]; simp
    · show Unit1 ((β * x.p) * a k + (-(β * v x.c)) * b k)
      rw [b2 cl.length k hk (by (first | lia | omega)) (by (first | lia | omega)), Int.mul_zero, Int.add_zero]
      exact (hβ.mul (E.piv i x hx).2).mul (a3 k hk)
  zero := fun j y hj hy => by
    by_cases e : j = i
    · subst e
      rw [hx] at hy; cases hy
      rw [(E.piv j x hx).1, Int.mul_comm (v x.c), Int.sub_self, Int.mul_zero]
    · rw [L.zero j y (by (first | lia | omega)) hy, E.zero i x hx j y (by (first | lia | omega)) hy]; simp
  small := fun f hf => by
    have h1 := L.small f hf
    have h2 := L.small x.c (E.mem i x hx)
    have h3 : (x.p * v f).natAbs = (v f).natAbs := by
      rcases (E.piv i x hx).2 with h | h <;> rw [h] <;> (first | lia | omega)
    have h4 : (v x.c * x.r f).natAbs ≤ (v x.c).natAbs := by
      rcases E.sm i x hx f hf with h | h | h <;> rw [h] <;> (first | lia | omega)
    have h5 : (β * (x.p * v f - v x.c * x.r f)).natAbs = (x.p * v f - v x.c * x.r f).natAbs := by
      rcases hβ with h | h <;> rw [h] <;> (first | lia | omega)
    rw [h5, Nat.pow_succ]
    (first | lia | omega)
theorem Left.fin (E : Elim m F cl) (hF : Fam m F) {v : List Bool → Int} (hl : cl.length < F.length) (L : Left m F cl cl.length v) : (∀ f ∈ F, Sm (v f)) ∧ ∃ f ∈ F, v f ≠ 0 := by
  obtain ⟨a, a1, a2, a3⟩ := L.comb
  have hK : cl.length < (kept m F).length := by rw [kept_len]; exact hl
  obtain ⟨k, hk⟩ : ∃ k, (kept m F)[cl.length]? = some k := ⟨_, List.getElem?_eq_getElem hK⟩
  have az : ∀ l k', (kept m F)[l]? = some k' → cl.length + 1 ≤ l → a k' = 0 := fun l k' h h' => a2 l k' h (by (first | lia | omega)) (by (first | lia | omega))
  constructor
  · intro f hf
    have hu := uni m F hF cl.length hK (cl.map (·.c)) (fun c hc => by
        obtain ⟨x, hx, rfl⟩ := List.mem_map.mp hc
        obtain ⟨i, hi⟩ := List.getElem?_of_mem hx
        exact E.mem i x hi) (by rw [List.length_map]; exact Nat.le_refl _) (fun c hc g hg => ?_) a (fun i hi => a3 i hi) (fun c hc => ?_) f hf
    · rw [take_lin hF az, ← a1 f hf] at hu; exact hu
    · -- told by the points
      obtain ⟨c', hc'⟩ : ∃ c' : Nat → Int, ∀ i, c' i = if i ∈ (kept m F).take cl.length then c i else 0 := ⟨fun i => if i ∈ (kept m F).take cl.length then c i else 0, fun _ => rfl⟩
      have cz : ∀ l k', (kept m F)[l]? = some k' → cl.length ≤ l → c' k' = 0 := fun l k' h h' => by
        rw [hc', if_neg fun hm => ?_]
        obtain ⟨i, hi⟩ := List.getElem?_of_mem hm
        have hi1 := (List.getElem?_eq_some_iff.mp hi).1
        rw [List.length_take] at hi1
        rw [List.getElem?_take_of_lt (by (first | lia | omega))] at hi
        have := (List.getElem?_inj (List.getElem?_eq_some_iff.mp hi).1 (kept_nodup m F hF)).mp (hi.trans h.symm)
        (first | lia | omega)
      have ce : ∀ g, lin ((kept m F).take cl.length) c m g = lin (kept m F) c' m g := fun g => by
        rw [← take_lin hF cz]
        exact lin_congr fun i hi => by rw [hc', if_pos hi]
      rw [ce]
      refine E.told hF cl.length (Nat.le_refl _) c' cz (fun i x hi hx => ?_) g hg
      rw [← ce]
      exact hc x.c (List.mem_map.mpr ⟨x, List.mem_of_getElem? hx, rfl⟩)
    · obtain ⟨x, hx, rfl⟩ := List.mem_map.mp hc
      obtain ⟨i, hi⟩ := List.getElem?_of_mem hx
      rw [take_lin hF az, ← a1 _ (E.mem i x hi)]
      exact L.zero i x (List.getElem?_eq_some_iff.mp hi).1 hi
  · refine Classical.byContradiction fun hn => ?_
    have h0 : ∀ f ∈ F, lin (kept m F) a m f = 0 := fun f hf => by
      rw [← a1 f hf]
      exact Classical.byContradiction fun h => hn ⟨f, hf, h⟩
    have := kept_free m F hF a h0 k (List.mem_of_getElem? hk)
    rcases a3 k hk with h | h <;> (first | lia | omega)
theorem Elim.next (E : Elim m F cl) (hF : Fam m F) {v : List Bool → Int} {c : List Bool} (hl : cl.length < F.length) (L : Left m F cl cl.length v) (hc : c ∈ F) (hv : v c ≠ 0) : Elim m F (cl ++ [⟨c, v c, v⟩]) := by
  have S := (L.fin E hF hl).1
  have get : ∀ i x, (cl ++ [⟨c, v c, v⟩])[i]? = some x → (cl[i]? = some x ∧ i < cl.length) ∨ (i = cl.length ∧ x = ⟨c, v c, v⟩) := fun i x h => by
    by_cases hi : i < cl.length
    · rw [List.getElem?_append_left hi] at h; exact .inl ⟨h, hi⟩
    · rw [List.getElem?_append_right (by (first | lia | omega))] at h
      have : i - cl.length = 0 := by
        have := (List.getElem?_eq_some_iff.mp h).1
        simp at this; (first | lia | omega)
      rw [this] at h
      simp at h
      exact .inr ⟨by (first | lia | omega), h.symm⟩
  refine ⟨by simp; (first | lia | omega), fun i x h => ?_, fun i x h => ?_, fun i x h => ?_, fun i x h => ?_, fun i x h j y hj hy => ?_⟩
  · rcases get i x h with ⟨h, _⟩ | ⟨_, rfl⟩
    · exact E.mem i x h
    · exact hc
  · rcases get i x h with ⟨h, _⟩ | ⟨_, rfl⟩
    · exact E.piv i x h
    · refine ⟨rfl, ?_⟩
      rcases S c hc with h | h | h
      · exact absurd h hv
      · exact .inl h
      · exact .inr h
  · rcases get i x h with ⟨h, _⟩ | ⟨_, rfl⟩
    · exact E.sm i x h
    · exact S
  · rcases get i x h with ⟨h, _⟩ | ⟨e, rfl⟩
    · exact E.comb i x h
    · rw [e]; exact L.comb
  · rcases get i x h with ⟨h, hi⟩ | ⟨e, rfl⟩
    · rcases get j y hy with ⟨h', _⟩ | ⟨e', _⟩
      · exact E.zero i x h j y hj h'
      · (first | lia | omega)
    · rcases get j y hy with ⟨h', _⟩ | ⟨e', _⟩
      · exact L.zero j y (by (first | lia | omega)) h'
      · (first | lia | omega)
theorem Elim.nil : Elim m F [] := ⟨Nat.zero_le _, fun i x h => by simp at h, fun i x h => by simp at h, fun i x h => by simp at h, fun i x h => by simp at h, fun i x h => by simp at h⟩
end
end Mine
set_option Elab.async false
set_option autoImplicit false
set_option linter.unusedVariables false
namespace Mine
theorem redN_is7 : ∀ x, x < 128 → ∀ o, o < 128 → redN x o = if x.testBit o.log2 && o != 0 then x ^^^ o else x := by decide +kernel
theorem redN_lt7 {x : Nat} (o : Nat) (h : x < 128) : redN x o < 128 := Nat.lt_of_le_of_lt (Nat.min_le_left _ _) h
theorem redN_xor7 {x y o : Nat} (hx : x < 128) (hy : y < 128) (ho : o < 128) : redN (x ^^^ y) o = redN x o ^^^ redN y o := by
  rw [redN_is7 x hx o ho, redN_is7 y hy o ho, redN_is7 _ (Nat.xor_lt_two_pow (n := 7) hx hy) o ho, Nat.testBit_xor]
  have aux : ∀ a c : Nat, a ^^^ o ^^^ (c ^^^ o) = a ^^^ c := fun a c => by
    rw [Nat.xor_assoc, ← Nat.xor_assoc o, Nat.xor_comm o, Nat.xor_assoc c, Nat.xor_self, Nat.xor_zero]
  by_cases e : o = 0
  · subst e; simp
  · have : (o != 0) = true := by simpa using e
    rw [this]
    cases x.testBit o.log2 <;> cases y.testBit o.log2 <;> simp
    · rw [Nat.xor_assoc]
    · rw [Nat.xor_assoc, Nat.xor_comm y, ← Nat.xor_assoc]
    · exact (aux x y).symm
theorem redB_lt7 : ∀ (bs : List Nat) {x : Nat}, x < 128 → redB bs x < 128
  | [], _, h => h
  | o :: bs, x, h => redB_lt7 bs (redN_lt7 o h)
theorem redB_xor7 : ∀ (bs : List Nat), (∀ o ∈ bs, o < 128) → ∀ {x y : Nat}, x < 128 → y < 128 → redB bs (x ^^^ y) = redB bs x ^^^ redB bs y
  | [], _, _, _, _, _ => rfl
  | o :: bs, h, x, y, hx, hy => by
    show redB bs (redN (x ^^^ y) o) = redB bs (redN x o) ^^^ redB bs (redN y o)
    rw [redN_xor7 hx hy (h o (.head _)), redB_xor7 bs (fun z hz => h z (.tail _ hz)) (redN_lt7 o hx) (redN_lt7 o hy)]
structure Span7 (row : Nat → Nat) (n : Nat) : Prop where
  lt : ∀ o ∈ bas row n, o < 128
  iff : ∀ y, y < 128 → (cnt row n y ≠ 0 ↔ redB (bas row n) y = 0)
  size : cnt row n 0 * 2 ^ (bas row n).length = 2 ^ n
theorem span_ok7 (row : Nat → Nat) : ∀ n, (∀ p, p < n → row p < 128) → Span7 row n
  | 0, _ => by
    refine ⟨fun o h => (by cases h), fun y _ => ?_, (by rw [cnt_zero]; rfl)⟩
    rw [cnt_zero]
    show _ ↔ y = 0
    by_cases h : y = 0 <;> simp [h]
  | n + 1, hr => by
    have I := span_ok7 row n fun p hp => hr p (by (first | lia | omega))
    have hrn := hr n (by (first | lia | omega))
    obtain ⟨bs, hbs⟩ : ∃ bs, bs = bas row n := ⟨_, rfl⟩
    have hstep : bas row (n + 1) = rkStep bs (row n) := by rw [hbs]; rfl
    obtain ⟨ilt, iif, isz⟩ := I
    rw [← hbs] at ilt iif isz
    have hred : ∀ y, y < 128 → redB bs (y ^^^ row n) = redB bs y ^^^ redB bs (row n) := fun y hy => redB_xor7 bs ilt hy hrn
    by_cases h0 : redB bs (row n) = 0
    · have e : bas row (n + 1) = bs := by rw [hstep, rkStep, if_neg (by rw [h0]; simp)]
      refine ⟨by rw [e]; exact ilt, fun y hy => ?_, ?_⟩
      · have h1 := iif y hy
        have h2 := iif (y ^^^ row n) (Nat.xor_lt_two_pow (n := 7) hy hrn)
        rw [hred y hy, h0, Nat.xor_zero] at h2
        rw [e, cnt_succ, ← h1]
        rw [← h1] at h2
        constructor
        · intro h
          by_cases h3 : cnt row n y = 0
          · exact h2.mp (by (first | lia | omega))
          · exact h3
        · intro h; (first | lia | omega)
      · have h1 := (iif (row n) hrn).mpr h0
        have h2 := cnt_shift row n (row n) h1 0
        rw [Nat.xor_zero] at h2
        rw [e, cnt_succ, Nat.zero_xor, h2, Nat.pow_succ, ← isz, Nat.add_mul]; (first | lia | omega)
    · have e : bas row (n + 1) = bs ++ [redB bs (row n)] := by rw [hstep, rkStep, if_pos h0]
      have hz : cnt row n (row n) = 0 := by
        by_cases h : cnt row n (row n) = 0
        · exact h
        · exact absurd ((iif (row n) hrn).mp h) h0
      refine ⟨fun o ho => ?_, fun y hy => ?_, ?_⟩
      · rw [e] at ho
        rcases List.mem_append.mp ho with ho | ho
        · exact ilt o ho
        · simp at ho; subst ho; exact redB_lt7 bs hrn
      · rw [e, redB_snoc, redN_zero, cnt_succ]
        have h1 := iif y hy
        have h2 := iif (y ^^^ row n) (Nat.xor_lt_two_pow (n := 7) hy hrn)
        rw [hred y hy, xor_zero_iff] at h2
        rw [← h1, ← h2]
        (first | lia | omega)
      · rw [e, cnt_succ, Nat.zero_xor, hz, Nat.add_zero, List.length_append, List.length_cons, List.length_nil, Nat.pow_succ, Nat.pow_succ, ← Nat.mul_assoc, isz]

noncomputable def rowF (m : Nat) (F : List (List Bool)) (i : Nat) : Nat := bitsN (fun t => inc m i (F.getD t [])) F.length
theorem rowF_bit (m : Nat) (F : List (List Bool)) (i q : Nat) : (rowF m F i).testBit q = (decide (q < F.length) && inc m i (F.getD q [])) := bitsN_bit _ _ _
theorem rowF_lt (m : Nat) {F : List (List Bool)} (i : Nat) (h : F.length ≤ 7) : rowF m F i < 128 := Nat.lt_of_lt_of_le (bitsN_lt _ _) (Nat.pow_le_pow_right (n := 2) (by decide) h)
theorem dep_cnt (m : Nat) (F : List (List Bool)) (i : Nat) : Dep m F i ↔ cnt (rowF m F) i (rowF m F i) ≠ 0 := by
  constructor
  · rintro ⟨s, hs⟩
    have hx : fx (rowF m F) i (bitsN s i) = rowF m F i := by
      apply Nat.eq_of_testBit_eq
      intro q
      rw [fx_bit, rowF_bit]
      by_cases hq : q < F.length
      · rw [decide_eq_true hq, Bool.true_and]
        have hm : F.getD q [] ∈ F := by
          rw [List.getD_eq_getElem?_getD, List.getElem?_eq_getElem hq]; exact List.getElem_mem hq
        rw [hs _ hm]
        apply px_congr
        intro p hp
        rw [bitsN_bit, rowF_bit, decide_eq_true hp, decide_eq_true hq, Bool.true_and, Bool.true_and]
      · rw [decide_eq_false hq, Bool.false_and]
        rw [← px_false i]
        apply px_congr
        intro p hp
        rw [rowF_bit, decide_eq_false hq, Bool.false_and, Bool.and_false]
    intro h0
    unfold cnt at h0
    have := (List.countP_eq_zero.mp h0) (bitsN s i) (List.mem_range.mpr (bitsN_lt s i))
    simp [hx] at this
  · intro h
    have hp : 0 < cnt (rowF m F) i (rowF m F i) := Nat.pos_of_ne_zero h
    unfold cnt at hp
    obtain ⟨x, _, hx⟩ := List.countP_pos_iff.mp hp
    have hx' := of_decide_eq_true hx
    refine ⟨fun p => x.testBit p, fun f hf => ?_⟩
    obtain ⟨q, hq, rfl⟩ := List.getElem_of_mem hf
    have hb := congrArg (fun z => Nat.testBit z q) hx'
    simp only [fx_bit, rowF_bit] at hb
    rw [decide_eq_true hq, Bool.true_and, List.getD_eq_getElem?_getD, List.getElem?_eq_getElem hq] at hb
    show inc m i F[q] = _
    rw [Option.getD_some] at hb
    rw [← hb]
    apply px_congr
    intro p _
    rw [Bool.true_and]
noncomputable def early (m : Nat) (F : List (List Bool)) : List Nat := (List.range (2 ^ m)).filter fun i => decide (redB (bas (rowF m F) i) (rowF m F i) ≠ 0)
theorem kept_early (m : Nat) (F : List (List Bool)) (hF : Fam m F) (h7 : F.length ≤ 7) : kept m F = early m F := by
  refine kept_dep m F hF _ fun i hi => ?_
  have sp := span_ok7 (rowF m F) i fun p _ => rowF_lt m p h7
  rw [decide_eq_true_eq, dep_cnt, sp.iff _ (rowF_lt m i h7)]

end Mine
open PySem PySem.Calls PyProof.Rows
set_option Elab.async false
set_option autoImplicit false
set_option linter.unusedVariables false
namespace Mine

noncomputable def Rise (xs : Array Nat) : Prop := xs.toList.Pairwise (· < ·)

theorem below_go (xs : Array Nat) (hr : Rise xs) (j : Nat) : ∀ (fuel lo hi : Nat), hi - lo ≤ fuel → lo ≤ hi → hi ≤ xs.size → (∀ k, k < lo → xs.getD k 0 < j) → (∀ k, hi ≤ k → k < xs.size → j ≤ xs.getD k 0) →
    SetTable.below.go xs j fuel lo hi ≤ xs.size ∧ (∀ k, k < SetTable.below.go xs j fuel lo hi → xs.getD k 0 < j) ∧ (∀ k, SetTable.below.go xs j fuel lo hi ≤ k → k < xs.size → j ≤ xs.getD k 0)
  | 0, lo, hi, h1, h2, h3, h4, h5 => by
    have : lo = hi := by (first | lia | omega)
    subst this
    exact ⟨h3, h4, h5⟩
  | fuel + 1, lo, hi, h1, h2, h3, h4, h5 => by
    have mono : ∀ a c, a < c → c < xs.size → xs.getD a 0 < xs.getD c 0 := fun a c hac hc => by
      have := (List.pairwise_iff_getElem.mp hr) a c (by simp; (first | lia | omega)) (by simpa using hc) hac
      simpa [Array.getD_eq_getD_getElem?, Array.getElem?_eq_getElem hc, Array.getElem?_eq_getElem (show a < xs.size by (first | lia | omega))] using this
    unfold SetTable.below.go
    by_cases hl : lo < hi
    · rw [if_pos hl]
      dsimp only
      have hge : xs.getD ((lo + hi) / 2) j = xs.getD ((lo + hi) / 2) 0 := by
        simp [Array.getD_eq_getD_getElem?, Array.getElem?_eq_getElem (show (lo + hi) / 2 < xs.size by (first | lia | omega))]
      rw [hge]
      by_cases hm : xs.getD ((lo + hi) / 2) 0 < j
      · rw [if_pos hm]
        refine below_go xs hr j fuel _ _ (by (first | lia | omega)) (by (first | lia | omega)) h3 (fun k hk => ?_) h5
        by_cases e : k = (lo + hi) / 2
        · subst e; exact hm
        · exact Nat.lt_trans (mono k _ (by (first | lia | omega)) (by (first | lia | omega))) hm
      · rw [if_neg hm]
        refine below_go xs hr j fuel _ _ (by (first | lia | omega)) (by (first | lia | omega)) (by (first | lia | omega)) h4 fun k hk hks => ?_
        by_cases e : k = (lo + hi) / 2
        · subst e; (first | lia | omega)
        · have := mono ((lo + hi) / 2) k (by (first | lia | omega)) hks; (first | lia | omega)
    · rw [if_neg hl]
      have : lo = hi := by (first | lia | omega)
      subst this
      exact ⟨h3, h4, h5⟩
theorem below_spec (xs : Array Nat) (hr : Rise xs) (j : Nat) : SetTable.below xs j ≤ xs.size ∧ (∀ k, k < SetTable.below xs j → xs.getD k 0 < j) ∧ (∀ k, SetTable.below xs j ≤ k → k < xs.size → j ≤ xs.getD k 0) :=
  below_go xs hr j _ _ _ (by (first | lia | omega)) (Nat.zero_le _) (Nat.le_refl _) (fun k h => by (first | lia | omega)) fun k h1 h2 => by (first | lia | omega)
theorem below_is (xs : Array Nat) (hr : Rise xs) (j i : Nat) (hi : i ≤ xs.size) (h1 : ∀ k, k < i → xs.getD k 0 < j) (h2 : i < xs.size → j ≤ xs.getD i 0) : SetTable.below xs j = i := by
  obtain ⟨b0, b1, b2⟩ := below_spec xs hr j
  rcases Nat.lt_trichotomy (SetTable.below xs j) i with h | h | h
  · have := h1 _ h
    have := b2 _ (Nat.le_refl _) (by (first | lia | omega))
    (first | lia | omega)
  · exact h
  · have := b1 i h
    have := h2 (by (first | lia | omega))
    (first | lia | omega)
theorem below_zero (xs : Array Nat) (hr : Rise xs) : SetTable.below xs 0 = 0 := below_is xs hr 0 0 (Nat.zero_le _) (fun k h => by (first | lia | omega)) fun _ => Nat.zero_le _
theorem below_next (xs : Array Nat) (hr : Rise xs) {i : Nat} (hi : i < xs.size) : SetTable.below xs (xs.getD i 0 + 1) = i + 1 := by
  have mono : ∀ a c, a < c → c < xs.size → xs.getD a 0 < xs.getD c 0 := fun a c hac hc => by
    have := (List.pairwise_iff_getElem.mp hr) a c (by simp; (first | lia | omega)) (by simpa using hc) hac
    simpa [Array.getD_eq_getD_getElem?, Array.getElem?_eq_getElem hc, Array.getElem?_eq_getElem (show a < xs.size by (first | lia | omega))] using this
  refine below_is xs hr _ _ (by (first | lia | omega)) (fun k hk => ?_) fun h => ?_
  · by_cases e : k = i
    · subst e; (first | lia | omega)
    · have := mono k i (by (first | lia | omega)) hi; (first | lia | omega)
  · have := mono i (i + 1) (by (first | lia | omega)) h; (first | lia | omega)

theorem rise_insert {xs : Array Nat} (hr : Rise xs) {j : Nat} (hj : xs[SetTable.below xs j]? ≠ some j) : Rise (SetTable.insertAt xs (SetTable.below xs j) j) := by
  obtain ⟨b0, b1, b2⟩ := below_spec xs hr j
  generalize hp : SetTable.below xs j = p at *
  have e : (SetTable.insertAt xs p j).toList = xs.toList.take p ++ (j :: xs.toList.drop p) := by
    unfold SetTable.insertAt
    simp
    exact List.take_of_length_le (by simp)
  have mono : ∀ a c, a < c → c < xs.size → xs.getD a 0 < xs.getD c 0 := fun a c hac hc => by
    have := (List.pairwise_iff_getElem.mp hr) a c (by simp; (first | lia | omega)) (by simpa using hc) hac
    simpa [Array.getD_eq_getD_getElem?, Array.getElem?_eq_getElem hc, Array.getElem?_eq_getElem (show a < xs.size by (first | lia | omega))] using this
  have lo : ∀ a ∈ xs.toList.take p, a < j := fun a ha => by
    obtain ⟨k, hk, rfl⟩ := List.getElem_of_mem ha
    rw [List.length_take] at hk
    have hks : k < xs.size := by have := hk; simp at this; (first | lia | omega)
    have := b1 k (by (first | lia | omega))
    rw [List.getElem_take]
    simpa [Array.getD_eq_getD_getElem?, Array.getElem?_eq_getElem hks] using this
  have hi : ∀ a ∈ xs.toList.drop p, j < a := fun a ha => by
    obtain ⟨k, hk, rfl⟩ := List.getElem_of_mem ha
    rw [List.length_drop] at hk
    have hks : p + k < xs.size := by simp at hk; (first | lia | omega)
    rw [List.getElem_drop]
    have h1 := b2 p (Nat.le_refl _) (by (first | lia | omega))
    have hne : xs.getD p 0 ≠ j := fun e => hj (by rw [Array.getElem?_eq_getElem (by (first | lia | omega))]; simpa [Array.getD_eq_getD_getElem?, Array.getElem?_eq_getElem (show p < xs.size by (first | lia | omega))] using e)
    have h2 : j < xs.getD (p + k) 0 := by
      by_cases e : k = 0
      · subst e; rw [Nat.add_zero]; (first | lia | omega)
      · have := mono p (p + k) (by (first | lia | omega)) hks; (first | lia | omega)
    simpa [Array.getD_eq_getD_getElem?, Array.getElem?_eq_getElem hks] using h2
  unfold Rise
  rw [e, List.pairwise_append]
  refine ⟨List.Pairwise.sublist (List.take_sublist _ _) hr, List.pairwise_cons.mpr ⟨hi, List.Pairwise.sublist (List.drop_sublist _ _) hr⟩, fun a ha c hc => ?_⟩
  rcases List.mem_cons.mp hc with h | h
  · rw [h]; exact lo a ha
  · exact Nat.lt_trans (lo a ha) (hi c h)

theorem rise_nil : Rise #[] := List.Pairwise.nil

theorem fst_filterMap {β : Type} (g : Nat → Option β) (l : List Nat) : (l.filterMap fun j => (g j).map (j, ·)).map (·.1) = l.filter fun j => (g j).isSome := by
  induction l with
  | nil => rfl
  | cons j l ih =>
    rw [List.filterMap_cons, List.filter_cons]
    cases h : g j with
    | none => simp only [Option.map_none, Option.isSome_none]; exact ih
    | some x => simp only [Option.map_some, Option.isSome_some, List.map_cons, if_true, ih]
end Mine
open PySem PySem.Calls PyProof.Rows
set_option Elab.async false
set_option autoImplicit false
set_option linter.unusedVariables false
namespace Mine

theorem mem_below {xs : Array Nat} (hr : Rise xs) (j : Nat) : xs[SetTable.below xs j]? = some j ↔ j ∈ xs.toList := by
  constructor
  · intro h
    exact Array.mem_toList_iff.mpr (Array.mem_of_getElem? h)
  · intro h
    obtain ⟨k, hk, rfl⟩ := List.getElem_of_mem h
    have hk' : k < xs.size := by simpa using hk
    have mono : ∀ a c, a < c → c < xs.size → xs.getD a 0 < xs.getD c 0 := fun a c hac hc => by
      have := (List.pairwise_iff_getElem.mp hr) a c (by simp; (first | lia | omega)) (by simpa using hc) hac
      simpa [Array.getD_eq_getD_getElem?, Array.getElem?_eq_getElem hc, Array.getElem?_eq_getElem (show a < xs.size by (first | lia | omega))] using this
    have e : xs.toList[k] = xs.getD k 0 := by simp [Array.getD_eq_getD_getElem?, Array.getElem?_eq_getElem hk']
    rw [e, below_is xs hr (xs.getD k 0) k (by (first | lia | omega)) (fun a ha => mono a k ha hk') fun _ => Nat.le_refl _]
    simp [Array.getD_eq_getD_getElem?, Array.getElem?_eq_getElem hk']

section
variable {t : SetTable}
theorem slot_free (hr : Rise t.place) (hd : t.dummies = #[]) {j : Nat} (hj : j ∉ t.place.toList) : t.slot j = .empty := by
  unfold SetTable.slot
  have h1 : (t.place[SetTable.below t.place j]? == some j) = false := by
    apply beq_eq_false_iff_ne.mpr
    exact fun e => hj ((mem_below hr j).mp e)
  have h2 : SetTable.has t.dummies j = false := by rw [hd]; rfl
  simp only [h1, h2]
  rfl
theorem slot_live (hr : Rise t.place) {j : Nat} (hj : j ∈ t.place.toList) : ∃ i, t.slot j = .live i := by
  unfold SetTable.slot
  have h1 : (t.place[SetTable.below t.place j]? == some j) = true := by
    rw [(mem_below hr j).mpr hj]; simp
  simp only [h1]
  exact ⟨_, rfl⟩

noncomputable def it8 : Nat → Nat → Nat
  | 0, i => i
  | n + 1, i => it8 n ((i * 5 + 1) % 8)
theorem it8_all : ∀ i, i < 8 → ∀ r, r < 8 → ∃ n, n < 8 ∧ it8 n i = r := by decide
theorem least {P : Nat → Prop} : ∀ n, ¬ P n → ∃ m, m ≤ n ∧ ¬ P m ∧ ∀ k, k < m → P k := by
  intro n
  induction n using Nat.strongRecOn with
  | _ n ih =>
    intro h
    by_cases hk : ∀ k, k < n → P k
    · exact ⟨n, Nat.le_refl _, h, hk⟩
    · obtain ⟨k, hk⟩ := Classical.not_forall.mp hk
      obtain ⟨h1, h2⟩ := Classical.not_imp.mp hk
      obtain ⟨m, m1, m2, m3⟩ := ih k h1 h2
      exact ⟨m, by (first | lia | omega), m2, m3⟩

theorem go7 (hr : Rise t.place) (hd : t.dummies = #[]) (hm : t.mask = 7) (h : Int) : ∀ (n fuel : Nat) (p : SetTable.Probe), p.j = p.i → p.more = 0 → p.i < 8 → p.perturb < 32 → p.dummy = none → (∀ k, k < n → it8 k p.i ∈ t.place.toList) → it8 n p.i ∉ t.place.toList → n < fuel →
    SetTable.probe.go t (fun _ => h + 1) h fuel p = some (.empty (it8 n p.i) none)
  | 0, fuel, p, h1, h2, h3, h4, h5, h6, h7, h8 => by
    obtain ⟨f, rfl⟩ : ∃ f, fuel = f + 1 := ⟨fuel - 1, by (first | lia | omega)⟩
    unfold SetTable.probe.go
    have : t.slot p.j = .empty := slot_free hr hd (by rw [h1]; exact h7)
    rw [this, h1, h5]
    rfl
  | n + 1, fuel, p, h1, h2, h3, h4, h5, h6, h7, h8 => by
    obtain ⟨f, rfl⟩ : ∃ f, fuel = f + 1 := ⟨fuel - 1, by (first | lia | omega)⟩
    unfold SetTable.probe.go
    obtain ⟨i, hi⟩ := slot_live (t := t) hr (j := p.j) (by rw [h1]; exact h6 0 (by (first | lia | omega)))
    rw [hi]
    have hb : (h + 1 == h) = false := beq_eq_false_iff_ne.mpr (by (first | lia | omega))
    simp only [hb, Bool.false_eq_true, if_false]
    have ha : t.advance p = { p with i := (p.i * 5 + 1) % 8, perturb := 0, j := (p.i * 5 + 1) % 8, more := 0 } := by
      unfold SetTable.advance
      rw [if_neg (by (first | lia | omega))]
      have e0 : p.perturb / 32 = 0 := by (first | lia | omega)
      have e1 : ∀ x, x < 8 → SetTable.runEnd 7 x - x = 0 := by decide
      simp only [SetTable.leap, hm, e0, Nat.add_zero]
      rw [e1 _ (Nat.mod_lt _ (by decide))]
    rw [ha]
    exact go7 hr hd hm h n f _ rfl rfl (Nat.mod_lt _ (by decide)) (by show 0 < 32; decide) h5 (fun k hk => h6 (k + 1) (by (first | lia | omega))) h7 (by (first | lia | omega))

theorem bits_nat {k : Nat} (hk : k < 32) : SetTable.bits (k : Int) = k := by
  unfold SetTable.bits
  (first | lia | omega)
theorem free7 (hr : Rise t.place) (hd : t.dummies = #[]) (hm : t.mask = 7) (hp : ∀ p ∈ t.place.toList, p < 8) (hs : t.place.size ≤ 4) {k : Nat} (hk : k < 32) : ∃ j, t.freeSlot (k : Int) = some (j, false) ∧ j < 8 ∧ j ∉ t.place.toList := by
  obtain ⟨r, hr8, hrn⟩ : ∃ r, r < 8 ∧ r ∉ t.place.toList := by
    refine Classical.byContradiction fun hn => ?_
    have := len_le (l := List.range 8) (l' := t.place.toList) List.nodup_range fun x hx => by
      refine Classical.byContradiction fun h => hn ⟨x, List.mem_range.mp hx, h⟩
    rw [List.length_range, Array.length_toList] at this
    (first | lia | omega)
  obtain ⟨n0, hn0, e0⟩ := it8_all (k % 8) (Nat.mod_lt _ (by decide)) r hr8
  obtain ⟨n, hn, hnot, hall⟩ := least (P := fun n => it8 n (k % 8) ∈ t.place.toList) n0 (by rw [e0]; exact hrn)
  have hlt : ∀ n i, i < 8 → it8 n i < 8 := by
    intro n
    induction n with
    | zero => intro i h; exact h
    | succ n ih => intro i h; exact ih _ (Nat.mod_lt _ (by decide))
  refine ⟨it8 n (k % 8), ?_, hlt _ _ (Nat.mod_lt _ (by decide)), hnot⟩
  have e1 : ∀ x, x < 8 → SetTable.runEnd 7 x - x = 0 := by decide
  have := go7 (t := t) hr hd hm (k : Int) n (10 * SetTable.turns t.mask) (t.probeStart (k : Int)) rfl (by
    show SetTable.runEnd t.mask (SetTable.bits (k : Int) % (t.mask + 1)) - SetTable.bits (k : Int) % (t.mask + 1) = 0
    rw [hm]; exact e1 _ (Nat.mod_lt _ (by decide))) (by
    show SetTable.bits (k : Int) % (t.mask + 1) < 8
    rw [hm]; exact Nat.mod_lt _ (by decide)) (by
    show SetTable.bits (k : Int) < 32
    rw [bits_nat hk]; exact hk) rfl (by
    show ∀ m, m < n → it8 m (SetTable.bits (k : Int) % (t.mask + 1)) ∈ _
    rw [hm, bits_nat hk]; exact hall) (by
    show it8 n (SetTable.bits (k : Int) % (t.mask + 1)) ∉ _
    rw [hm, bits_nat hk]; exact hnot) (by rw [hm]; show n < 10 * (7 + 15); (first | lia | omega))
  unfold SetTable.freeSlot SetTable.probe
  rw [this]
  show some (it8 n (SetTable.bits (k : Int) % (t.mask + 1)), false) = _
  rw [hm, bits_nat hk]
theorem free31 (hr : Rise t.place) (hd : t.dummies = #[]) (hm : t.mask = 31) {k : Nat} (hk : k < 32) (hn : k ∉ t.place.toList) : t.freeSlot (k : Int) = some (k, false) := by
  have e : SetTable.bits (k : Int) % (t.mask + 1) = k := by rw [hm, bits_nat hk]; (first | lia | omega)
  have : SetTable.probe t (fun _ => (k : Int) + 1) (k : Int) (t.probeStart (k : Int)) = some (.empty k none) := by
    unfold SetTable.probe
    rw [show 10 * SetTable.turns t.mask = 459 + 1 by rw [hm]; rfl]
    unfold SetTable.probe.go
    have : t.slot (t.probeStart (k : Int)).j = .empty := slot_free hr hd (by
      show SetTable.bits (k : Int) % (t.mask + 1) ∉ _
      rw [e]; exact hn)
    rw [this]
    show some (SetTable.Met.empty (SetTable.bits (k : Int) % (t.mask + 1)) none) = _
    rw [e]
  unfold SetTable.freeSlot
  rw [this]; rfl
end

noncomputable def EntOk (e : Int × Value) : Prop := ∃ k : Nat, k < 32 ∧ e.1 = (k : Int) ∧ ∃ t, e.2 = .int k t
noncomputable def keyN (e : Int × Value) : Nat := e.1.toNat

structure Good (es : Array (Int × Value)) (t : SetTable) (L : Bool) : Prop where
  led : t.led = L
  ents : ∀ e ∈ es.toList, EntOk e
  nd : (es.toList.map keyN).Nodup
  rise : Rise t.place
  size : t.place.size = es.size
  plain : t.plain = true
  dum : t.dummies = #[]
  few : es.size ≤ 10
  mode : (t.mask = 7 ∧ es.size ≤ 4 ∧ ∀ p ∈ t.place.toList, p < 8) ∨ (t.mask = 31 ∧ ∀ j, j ∈ t.place.toList ↔ j ∈ es.toList.map keyN)
theorem Good.fits {es : Array (Int × Value)} {t : SetTable} {L : Bool} (G : Good es t L) : t.fits es.size = true := by
  have h1 := G.size
  have h2 := G.few
  have h3 : t.dummies.size = 0 := by rw [G.dum]; rfl
  unfold SetTable.fits SetTable.fill
  rw [h3, h1]
  rcases G.mode with ⟨h, h4, _⟩ | ⟨h, _⟩
  · rw [h]; simp; (first | lia | omega)
  · rw [h]; simp; (first | lia | omega)
theorem Good.nil (led : Bool) : Good #[] (.fresh 0 0 led) led := ⟨rfl, fun e h => by simp at h, List.nodup_nil, rise_nil, rfl, rfl, rfl, by decide, .inl ⟨rfl, by decide, fun p h => by simp [SetTable.fresh] at h⟩⟩

structure Own5 (owner : Array (Option Nat)) (k : Nat) (done : List Nat) : Prop where
  size : owner.size = 32
  some : ∀ j, j < 32 → ((owner.getD j none).isSome = true ↔ j ∈ done)
  perm : (owner.toList.filterMap id).Perm (List.range k)
theorem set_perm {α : Type} {a : α} : ∀ {l : List (Option α)} {i : Nat}, l[i]? = some none → ((l.set i (some a)).filterMap id).Perm (a :: l.filterMap id)
  | [], i, h => by simp at h
  | x :: l, 0, h => by
    simp at h; subst h
    exact .refl _
  | x :: l, i + 1, h => by
    have ih := set_perm (a := a) (l := l) (i := i) (by simpa using h)
    rw [List.set_cons_succ]
    cases x with
    | none => exact ih
    | some y => exact (ih.cons y).trans (.swap _ _ _)
theorem free_clean {owner : Array (Option Nat)} {k : Nat} {done : List Nat} (O : Own5 owner k done) {h : Nat} (hh : h < 32) (hn : h ∉ done) : SetTable.layClean.free 31 owner (SetTable.turns 31) h h = some h := by
  have h0 : owner.getD h none = none := by
    cases e : owner.getD h none with
    | none => rfl
    | some x => exact absurd ((O.some h hh).mp (by rw [e]; rfl)) hn
  have hg : owner[h]? = some none := by
    have hs : h < owner.size := by rw [O.size]; exact hh
    rw [Array.getElem?_eq_getElem hs]
    simpa [Array.getD_eq_getD_getElem?, Array.getElem?_eq_getElem hs] using h0
  rw [show SetTable.turns 31 = 45 + 1 from rfl]
  unfold SetTable.layClean.free
  have e1 : SetTable.runEnd 31 h + 1 - h = (SetTable.runEnd 31 h - h) + 1 := by
    have : h ≤ SetTable.runEnd 31 h := by unfold SetTable.runEnd; split <;> (first | lia | omega)
    (first | lia | omega)
  have e2 : (List.range (SetTable.runEnd 31 h + 1 - h)).find? (fun k => (owner.getD (h + k) (some 0)).isNone) = some 0 := by
    rw [e1, List.range_succ_eq_map, List.find?_cons]
    have : (owner.getD (h + 0) (some 0)).isNone = true := by
      simp [Array.getD_eq_getD_getElem?, hg]
    rw [this]
  rw [e2]
  rfl
theorem lay_fold : ∀ (hs : List Nat) (owner : Array (Option Nat)) (k : Nat) (done : List Nat), Own5 owner k done → (∀ h ∈ hs, h < 32 ∧ h ∉ done) → hs.Nodup →
    ∃ owner', (hs.map Int.ofNat).foldl (fun acc h => do
      let (owner, k) ← acc
      let j ← SetTable.layClean.free 31 owner (SetTable.turns 31) (SetTable.bits h % (31 + 1)) (SetTable.bits h)
      pure (owner.setIfInBounds j (some k), k + 1)) (some (owner, k)) = some (owner', k + hs.length) ∧ Own5 owner' (k + hs.length) (done ++ hs)
  | [], owner, k, done, O, _, _ => ⟨owner, rfl, by rw [List.append_nil]; exact O⟩
  | h :: hs, owner, k, done, O, hh, nd => by
    have hp := List.nodup_cons.mp nd
    obtain ⟨h1, h2⟩ := hh h (.head _)
    have hsz : h < owner.size := by rw [O.size]; exact h1
    have h0 : owner[h]? = some none := by
      rw [Array.getElem?_eq_getElem hsz]
      cases e : owner[h] with
      | none => rfl
      | some x => exact absurd ((O.some h h1).mp (by simp [Array.getD_eq_getD_getElem?, Array.getElem?_eq_getElem hsz, e])) h2
    have O' : Own5 (owner.setIfInBounds h (some k)) (k + 1) (done ++ [h]) := by
      refine ⟨by rw [Array.size_setIfInBounds]; exact O.size, fun j hj => ?_, ?_⟩
      · rw [List.mem_append, List.mem_singleton, ← O.some j hj, Array.getD_eq_getD_getElem?, Array.getD_eq_getD_getElem?, Array.getElem?_setIfInBounds]
        by_cases e : h = j
        · subst e; simp [hsz]
        · rw [if_neg e]
          constructor
          · exact .inl
          · rintro (h | h)
            · exact h
            · exact absurd h.symm e
      · rw [Array.toList_setIfInBounds]
        refine (set_perm (by rw [Array.getElem?_toList]; exact h0)).trans ?_
        rw [List.range_succ]
        exact (O.perm.cons k).trans (List.perm_append_singleton k _).symm
    obtain ⟨owner', e1, O2⟩ := lay_fold hs _ _ _ O' (fun x hx => ⟨(hh x (.tail _ hx)).1, fun hm => by
      rcases List.mem_append.mp hm with h' | h'
      · exact (hh x (.tail _ hx)).2 h'
      · rw [List.mem_singleton] at h'; subst h'; exact hp.1 hx⟩) hp.2
    refine ⟨owner', ?_, ?_⟩
    · rw [List.map_cons, List.foldl_cons]
      have e2 : SetTable.bits (Int.ofNat h) = h := bits_nat h1
      have e3 : h % (31 + 1) = h := by (first | lia | omega)
      show List.foldl _ (do
        let j ← SetTable.layClean.free 31 owner (SetTable.turns 31) (SetTable.bits (Int.ofNat h) % (31 + 1)) (SetTable.bits (Int.ofNat h))
        pure (owner.setIfInBounds j (some k), k + 1)) _ = _
      rw [e2, e3, free_clean O h1 h2]
      rw [show k + (h :: hs).length = k + 1 + hs.length by rw [List.length_cons]; (first | lia | omega)]
      exact e1
    · rw [show k + (h :: hs).length = k + 1 + hs.length by rw [List.length_cons]; (first | lia | omega)]
      have : done ++ h :: hs = done ++ [h] ++ hs := by simp
      rw [this]; exact O2
end Mine
open PySem PySem.Calls PyProof.Rows
set_option Elab.async false
set_option autoImplicit false
set_option linter.unusedVariables false
namespace Mine

theorem own_nil : Own5 (Array.replicate 32 none) 0 [] where
  size := Array.size_replicate
  some := fun j hj => by
    rw [Array.getD_eq_getD_getElem?, Array.getElem?_replicate, if_pos hj]; simp
  perm := by
    rw [Array.toList_replicate]
    have : ∀ n : Nat, (List.replicate n (none : Option Nat)).filterMap id = [] := fun n => by
      induction n with
      | zero => rfl
      | succ n ih => rw [List.replicate_succ]; exact ih
    rw [this]; exact .refl _

theorem layClean_ok {hs : List Nat} (h1 : ∀ h ∈ hs, h < 32) (nd : hs.Nodup) : ∃ owner, SetTable.layClean 31 (hs.map Int.ofNat).toArray = some owner ∧ Own5 owner hs.length hs := by
  obtain ⟨owner, e, O⟩ := lay_fold hs (Array.replicate 32 none) 0 [] own_nil (fun h hh => ⟨h1 h hh, by simp⟩) nd
  refine ⟨owner, ?_, by simpa using O⟩
  unfold SetTable.layClean
  rw [← Array.foldl_toList]
  show Option.map _ (List.foldl _ (some (Array.replicate 32 none, 0)) (hs.map Int.ofNat)) = _
  rw [e]
  rfl

theorem keys_hash {es : Array (Int × Value)} (he : ∀ e ∈ es.toList, EntOk e) : es.map (·.1) = ((es.toList.map keyN).map Int.ofNat).toArray := by
  apply Array.toList_inj.mp
  rw [Array.toList_map, List.toList_toArray, List.map_map]
  apply List.map_congr_left
  intro e h
  obtain ⟨k, hk, e1, _⟩ := he e h
  show e.1 = ((e.1.toNat : Nat) : Int)
  rw [e1]; rfl

theorem snd_filterMap {β : Type} (g : Nat → Option β) (l : List Nat) : (l.filterMap fun j => (g j).map (j, ·)).map (·.2) = l.filterMap g := by
  induction l with
  | nil => rfl
  | cons j l ih =>
    rw [List.filterMap_cons, List.filterMap_cons]
    cases h : g j with
    | none => simp only [Option.map_none]; exact ih
    | some x => simp only [Option.map_some, List.map_cons, ih]
theorem range_getD {α : Type} (xs : Array (Option α)) : (List.range xs.size).filterMap (fun j => xs.getD j none) = xs.toList.filterMap id := by
  have : ∀ l : List (Option α), (List.range l.length).filterMap (fun j => l.getD j none) = l.filterMap id := fun l => by
    induction l with
    | nil => rfl
    | cons a l ih =>
      rw [List.length_cons, List.range_succ_eq_map, List.filterMap_cons, List.filterMap_map, List.filterMap_cons]
      have e : ((fun j => (a :: l).getD j none) ∘ Nat.succ) = fun j => l.getD j none := by funext j; simp
      rw [e, ih]
      cases a <;> rfl
  have h := this xs.toList
  rw [Array.length_toList] at h
  rw [← h]
  have e : (fun j => xs.getD j none) = fun j => xs.toList.getD j none := by
    funext j
    simp [Array.getD_eq_getD_getElem?, List.getD_eq_getElem?_getD]
  rw [e]

theorem relay_good {t : SetTable} {es : Array (Int × Value)} {L : Bool} (hL : t.led = L) (he : ∀ e ∈ es.toList, EntOk e) (nd : (es.toList.map keyN).Nodup) (hp : t.plain = true) (hn : es.size ≤ 10) : Good (relayAll t es 20).1 (relayAll t es 20).2.1 L := by
  have hperm := relayAll_perm t es 20
  have hlt : ∀ h ∈ es.toList.map keyN, h < 32 := fun h hh => by
    obtain ⟨e, hm, rfl⟩ := List.mem_map.mp hh
    obtain ⟨k, hk, e1, _⟩ := he e hm
    unfold keyN; rw [e1]; exact hk
  obtain ⟨owner, e1, O⟩ := layClean_ok hlt nd
  have hl : (es.toList.map keyN).length = es.size := by rw [List.length_map, Array.length_toList]
  obtain ⟨t', ht'⟩ : ∃ t' : SetTable, t' = { mask := 31, place := (((List.range 32).filter fun j => (owner.getD j none).isSome)).toArray, dummies := #[], finger := t.finger, led := t.led, moves := t.movedTo 31, plain := t.plain } := ⟨_, rfl⟩
  obtain ⟨order, horder⟩ : ∃ order, order = (owner.toList.filterMap id).toArray := ⟨_, rfl⟩
  have hrel : t.relaid (es.map (·.1)) 20 = some (t', order) := by
    unfold SetTable.relaid SetTable.laid
    rw [show SetTable.sizeAbove 20 - 1 = 31 by decide, keys_hash he, e1]
    show some (_, _) = some (_, _)
    rw [ht', horder]
    have e2 := range_getD owner
    rw [O.size] at e2
    rw [← e2, ← fst_filterMap (fun j => owner.getD j none) (List.range 32), ← snd_filterMap (fun j => owner.getD j none) (List.range 32)]
  have hcov : coversAll order es.size = true := by
    unfold coversAll
    rw [List.isPerm_iff, horder, List.toList_toArray, ← hl]
    exact O.perm
  have hmem : ∀ j, j ∈ t'.place.toList ↔ j ∈ es.toList.map keyN := fun j => by
    rw [ht', List.toList_toArray, List.mem_filter, List.mem_range]
    constructor
    · rintro ⟨h1, h2⟩; exact (O.some j h1).mp h2
    · intro h; exact ⟨hlt j h, (O.some j (hlt j h)).mpr h⟩
  have hrise : Rise t'.place := by
    rw [ht']
    unfold Rise
    rw [List.toList_toArray]
    exact List.Pairwise.sublist List.filter_sublist List.pairwise_lt_range
  have hsize : t'.place.size = es.size := by
    have n1 : t'.place.toList.Nodup := by
      rw [ht', List.toList_toArray]
      exact List.nodup_range.sublist List.filter_sublist
    have a1 := len_le n1 fun x hx => (hmem x).mp hx
    have a2 := len_le nd fun x hx => (hmem x).mpr hx
    rw [hl] at a1 a2
    rw [Array.length_toList] at a1 a2
    (first | lia | omega)
  have hord : order.size = es.size := by
    have := (List.isPerm_iff.mp hcov).length_eq
    simpa using this
  have hsz : (order.filterMap (es[·]?)).size = es.size := by
    have hp2 : List.Perm order.toList (List.range es.size) := List.isPerm_iff.mp hcov
    have h3 := (hp2.filterMap (fun i => es[i]?)).length_eq
    rw [filterMap_getElem?_range, Array.length_toList, ← Array.toList_filterMap, Array.length_toList] at h3
    exact h3
  have hfit : t'.fits (order.filterMap (es[·]?)).size = true := by
    rw [hsz]
    unfold SetTable.fits SetTable.fill
    rw [hsize]
    have : t'.dummies.size = 0 := by rw [ht']; rfl
    have h2 : t'.mask = 31 := by rw [ht']
    rw [this, h2]
    simp; (first | lia | omega)
  have hval : relayAll t es 20 = (order.filterMap (es[·]?), t', false) := by
    unfold relayAll
    rw [hrel]
    dsimp only
    rw [hcov, hfit]
    rfl
  rw [hval] at hperm ⊢
  refine ⟨by rw [ht']; exact hL, fun e h => he e (hperm.mem_iff.mp h), (hperm.map keyN).nodup_iff.mpr nd, hrise, by rw [hsize, hsz], by rw [ht']; exact hp, by rw [ht'], by rw [hsz]; exact hn, .inr ⟨by rw [ht'], fun j => ?_⟩⟩
  rw [hmem]
  exact (hperm.map keyN).mem_iff.symm

theorem Good.put {es : Array (Int × Value)} {t : SetTable} {L : Bool} (G : Good es t L) {k : Nat} {tk : Tok} (hk : k < 32) (hn : k ∉ es.toList.map keyN) (hs : es.size < 10) :
    ∃ es1 t1, layNew t es (k : Int) (.int k tk) = (es1, t1, false, false) ∧ es1.toList.Perm (es.push ((k : Int), .int k tk)).toList ∧ t1.plain = true ∧
      ((t1.tooFull = false ∧ Good es1 t1 L) ∨ (t1.tooFull = true ∧ es1.size = 5 ∧ Good (relayAll t1 es1 (SetTable.grown es1.size)).1 (relayAll t1 es1 (SetTable.grown es1.size)).2.1 L)) := by
  obtain ⟨j, hf, hj⟩ : ∃ j, t.freeSlot (k : Int) = some (j, false) ∧ j ∉ t.place.toList ∧ ((t.mask = 7 ∧ j < 8) ∨ (t.mask = 31 ∧ j = k)) := by
    rcases G.mode with ⟨h1, h2, h3⟩ | ⟨h1, h2⟩
    · obtain ⟨j, a, b, c⟩ := free7 G.rise G.dum h1 h3 (by rw [G.size]; exact h2) hk
      exact ⟨j, a, c, .inl ⟨h1, b⟩⟩
    · have : k ∉ t.place.toList := fun h => hn ((h2 k).mp h)
      exact ⟨k, free31 G.rise G.dum h1 hk this, this, .inr ⟨h1, rfl⟩⟩
  obtain ⟨hj, hmode⟩ := hj
  obtain ⟨p, hp⟩ : ∃ p, p = SetTable.below t.place j := ⟨_, rfl⟩
  obtain ⟨es1, hes⟩ : ∃ es1, es1 = SetTable.insertAt es p ((k : Int), .int k tk) := ⟨_, rfl⟩
  obtain ⟨t1, ht1⟩ : ∃ t1 : SetTable, t1 = { t with place := SetTable.insertAt t.place p j } := ⟨_, rfl⟩
  have hput : t.put j = (t1, p) := by
    unfold SetTable.put
    rw [ht1, hp]
    have : SetTable.has t.dummies j = false := by rw [G.dum]; rfl
    simp only [this, Bool.false_eq_true, if_false]
  have hperm : es1.toList.Perm (es.push ((k : Int), .int k tk)).toList := hes ▸ SetTable.insertAt_perm es p _
  have hsz : es1.size = es.size + 1 := by
    have := hperm.length_eq
    simpa using this
  have hpp : (SetTable.insertAt t.place p j).toList.Perm (t.place.push j).toList := SetTable.insertAt_perm _ _ _
  have hps : t1.place.size = es1.size := by
    have := hpp.length_eq
    rw [ht1, hsz, ← G.size]
    simpa using this
  have hmask : t1.mask = t.mask := by rw [ht1]
  have hd1 : t1.dummies = #[] := by rw [ht1]; exact G.dum
  have hpl : t1.plain = true := by rw [ht1]; exact G.plain
  have hfit : t1.fits es1.size = true := by
    unfold SetTable.fits SetTable.fill
    rw [hps, hmask, hd1]
    rcases G.mode with ⟨h1, h2, _⟩ | ⟨h1, _⟩
    · rw [h1]; simp; (first | lia | omega)
    · rw [h1]; simp; (first | lia | omega)
  have hval : layNew t es (k : Int) (.int k tk) = (es1, t1, false, false) := by
    unfold layNew
    rw [hf]
    dsimp only
    rw [hput]
    dsimp only
    rw [← hes]
    unfold SetTable.orStandIn
    rw [if_pos hfit, hfit]
    rfl
  have hents : ∀ e ∈ es1.toList, EntOk e := fun e h => by
    have := hperm.mem_iff.mp h
    rw [Array.toList_push, List.mem_append, List.mem_singleton] at this
    rcases this with h | h
    · exact G.ents e h
    · subst h; exact ⟨k, hk, rfl, tk, rfl⟩
  have hkeys : (es1.toList.map keyN).Perm (es.toList.map keyN ++ [k]) := by
    have := hperm.map keyN
    rw [Array.toList_push, List.map_append] at this
    exact this
  have hnd : (es1.toList.map keyN).Nodup := hkeys.nodup_iff.mpr (List.nodup_append.mpr ⟨G.nd, by simp, fun a ha b hb => by
    rw [List.mem_singleton] at hb; subst hb; rintro rfl; exact hn ha⟩)
  have hrise : Rise t1.place := by
    rw [ht1, hp]
    exact rise_insert G.rise fun e => hj ((mem_below G.rise j).mp e)
  refine ⟨es1, t1, hval, hperm, hpl, ?_⟩
  have hfull : t1.tooFull = decide (es1.size * 5 ≥ t1.mask * 3) := by
    unfold SetTable.tooFull SetTable.fill
    rw [hps, hd1]; rfl
  rcases G.mode with ⟨h1, h2, h3⟩ | ⟨h1, h2⟩
  · by_cases h5 : es1.size = 5
    · refine .inr ⟨by rw [hfull, hmask, h1, h5]; rfl, h5, ?_⟩
      rw [h5]
      exact relay_good (by rw [ht1]; exact G.led) hents hnd hpl (by (first | lia | omega))
    · refine .inl ⟨by rw [hfull, hmask, h1]; exact decide_eq_false (by (first | lia | omega)), by rw [ht1]; exact G.led, hents, hnd, hrise, hps, hpl, hd1, by (first | lia | omega), .inl ⟨by rw [hmask]; exact h1, by (first | lia | omega), fun q hq => ?_⟩⟩
      rw [ht1] at hq
      have := hpp.mem_iff.mp hq
      rw [Array.toList_push, List.mem_append, List.mem_singleton] at this
      rcases this with h | h
      · exact h3 q h
      · rcases hmode with ⟨_, h'⟩ | ⟨h', _⟩
        · (first | lia | omega)
        · (first | lia | omega)
  · refine .inl ⟨by rw [hfull, hmask, h1]; exact decide_eq_false (by (first | lia | omega)), by rw [ht1]; exact G.led, hents, hnd, hrise, hps, hpl, hd1, by (first | lia | omega), .inr ⟨by rw [hmask]; exact h1, fun q => ?_⟩⟩
    rw [hkeys.mem_iff, List.mem_append, List.mem_singleton, ht1]
    have e := hpp.mem_iff (a := q)
    rw [Array.toList_push, List.mem_append, List.mem_singleton] at e
    rw [e, h2]
    rcases hmode with ⟨h', _⟩ | ⟨_, h'⟩
    · (first | lia | omega)
    · rw [h']
end Mine
open PySem PySem.Calls PyProof.Rows PySem.W
set_option Elab.async false
namespace Mine

inductive PV where
  | int (i : Int)
  | bool (b : Bool)
  | none
  | str (s : Str)
  | list (l : List PV)
  | tup (l : List PV)
  | dict (ks : List Str) (vs : List PV)
  | set (l : List Int)
  | bot

structure Tab where
  P : Addr
  line : Nat
  col : Nat
  qual : Str

structure Sys where
  prog : Program
  w : World
  hT : Heap
  tabs : List Tab

noncomputable def Sys.TB (S : Sys) : List Addr := S.tabs.map (·.P)

noncomputable def TabOk (S : Sys) (h : Heap) : Prop :=
  ∀ t ∈ S.tabs, ∃ ps, h.get? t.P = some (tabObj ps) ∧
    (ps = #[] ∨ ∃ c', ps = #[rawInt t.line, rawInt t.col, .ref c'] ∧ h.CodeRec (.ref c') t.qual)

structure Gd (S : Sys) (h : Heap) : Prop where
  top : ∀ b o, b ∉ S.TB → S.hT.get? b = some o → h.get? b = some o
  tab : TabOk S h

mutual
inductive Rp (S : Sys) (h : Heap) : Value → PV → List Addr → Prop
  | int (i : Int) (t : Tok) : Rp S h (.int i t) (.int i) []
  | bool (b : Bool) : Rp S h (.bool b) (.bool b) []
  | none : Rp S h .none .none []
  | str (x : Str) (t : Tok) : Rp S h (.str x t) (.str x) []
  | list {a : Addr} {vs : List Value} {ps : List PV} {fp : List Addr} : a ∉ S.TB → h.PlainList a vs.toArray → Rps S h vs ps fp → Rp S h (.ref a) (.list ps) (a :: fp)
  | tup {a : Addr} {vs : List Value} {ps : List PV} {fp : List Addr} : a ∉ S.TB → h.IsTuple a vs.toArray → Rps S h vs ps fp → Rp S h (.ref a) (.tup ps) (a :: fp)
  | dict {a : Addr} {ks : List Str} {vs : List Value} {ps : List PV} {fp : List Addr} : a ∉ S.TB → (a == sysModules) = false → ks.length = vs.length → h.DictOf (strKind S.prog S.w) a (ks.zip vs) → Rps S h vs ps fp → Rp S h (.ref a) (.dict ks ps) (a :: fp)
inductive Rps (S : Sys) (h : Heap) : List Value → List PV → List Addr → Prop
  | nil : Rps S h [] [] []
  | cons {v : Value} {vs : List Value} {p : PV} {ps : List PV} {f1 f2 : List Addr} : Rp S h v p f1 → Rps S h vs ps f2 → Rps S h (v :: vs) (p :: ps) (f1 ++ f2)
end

noncomputable def AtomIs : PV → Value → List Addr → Prop
  | .int i, v, fp => ∃ t, v = .int i t ∧ fp = []
  | .str x, v, fp => ∃ t, v = .str x t ∧ fp = []
  | .bool c, v, fp => ∃ _ : Unit, v = .bool c ∧ fp = []
  | .none, v, fp => ∃ _ : Unit, v = .none ∧ fp = []
  | _, _, _ => True
theorem Rp.inv {S : Sys} {h : Heap} {v : Value} {p : PV} {fp : List Addr} (r : Rp S h v p fp) : AtomIs p v fp := by
  cases r <;> first | exact ⟨_, rfl, rfl⟩ | exact ⟨(), rfl, rfl⟩ | trivial

theorem tb_data {S : Sys} {h : Heap} (G : TabOk S h) {b : Addr} (hb : b ∈ S.TB) : ∃ ps, h.get? b = some (tabObj ps) := by
  obtain ⟨t, ht, rfl⟩ := List.mem_map.mp hb
  obtain ⟨ps, e, _⟩ := G t ht
  exact ⟨ps, e⟩

theorem Rp.mono {S : Sys} {h h' : Heap} {v : Value} {p : PV} {fp : List Addr} (r : Rp S h v p fp) : (∀ b ∈ fp, ∀ o, h.get? b = some o → h'.get? b = some o) → Rp S h' v p fp := by
  refine Rp.rec (motive_1 := fun v p fp _ => (∀ b ∈ fp, ∀ o, h.get? b = some o → h'.get? b = some o) → Rp S h' v p fp)
    (motive_2 := fun vs ps fp _ => (∀ b ∈ fp, ∀ o, h.get? b = some o → h'.get? b = some o) → Rps S h' vs ps fp) ?_ ?_ ?_ ?_ ?_ ?_ ?_ ?_ ?_ r
  · intro i t _; exact .int i t
  · intro b _; exact .bool b
  · intro _; exact .none
  · intro x t _; exact .str x t
  · intro a vs ps fp h1 h2 _ ih k
    exact .list h1 (let ⟨n, e⟩ := h2; ⟨n, k a (.head _) _ e⟩) (ih fun b hb => k b (.tail _ hb))
  · intro a vs ps fp h1 h2 _ ih k
    exact .tup h1 (h2.at fun o e => k a (.head _) o e) (ih fun b hb => k b (.tail _ hb))
  · intro a ks vs ps fp h1 h2 h3 h4 _ ih k
    exact .dict h1 h2 h3 (h4.at fun o e => k a (.head _) o e) (ih fun b hb => k b (.tail _ hb))
  · intro _; exact .nil
  · intro v vs p ps f1 f2 _ _ i1 i2 k
    exact .cons (i1 fun b hb => k b (List.mem_append_left _ hb)) (i2 fun b hb => k b (List.mem_append_right _ hb))

theorem Rps.mono {S : Sys} {h h' : Heap} : ∀ {vs : List Value} {ps : List PV} {fp : List Addr}, Rps S h vs ps fp → (∀ b ∈ fp, ∀ o, h.get? b = some o → h'.get? b = some o) → Rps S h' vs ps fp
  | _, _, _, .nil, _ => .nil
  | _, _, _, .cons a b, k => .cons (a.mono fun x hx => k x (List.mem_append_left _ hx)) (Rps.mono b fun x hx => k x (List.mem_append_right _ hx))

theorem Rp.lives {S : Sys} {h : Heap} {v : Value} {p : PV} {fp : List Addr} (r : Rp S h v p fp) : ∀ b ∈ fp, b ∉ S.TB ∧ ∃ o, h.get? b = some o := by
  refine Rp.rec (motive_1 := fun v p fp _ => ∀ b ∈ fp, b ∉ S.TB ∧ ∃ o, h.get? b = some o) (motive_2 := fun vs ps fp _ => ∀ b ∈ fp, b ∉ S.TB ∧ ∃ o, h.get? b = some o) ?_ ?_ ?_ ?_ ?_ ?_ ?_ ?_ ?_ r
  · intro i t b hb; cases hb
  · intro x b hb; cases hb
  · intro b hb; cases hb
  · intro x t b hb; cases hb
  · intro a vs ps fp h1 h2 _ ih b hb
    rcases List.mem_cons.mp hb with rfl | hb
    · obtain ⟨n, e⟩ := h2; exact ⟨h1, _, e⟩
    · exact ih b hb
  · intro a vs ps fp h1 h2 _ ih b hb
    rcases List.mem_cons.mp hb with rfl | hb
    · exact ⟨h1, h2.choose, h2.choose_spec.1⟩
    · exact ih b hb
  · intro a ks vs ps fp h1 _ _ h2 _ ih b hb
    rcases List.mem_cons.mp hb with rfl | hb
    · obtain ⟨o, _, _, e, _⟩ := h2; exact ⟨h1, o, e⟩
    · exact ih b hb
  · intro b hb; cases hb
  · intro v vs p ps f1 f2 _ _ i1 i2 b hb
    rcases List.mem_append.mp hb with hb | hb
    · exact i1 b hb
    · exact i2 b hb

theorem Rps.lives {S : Sys} {h : Heap} : ∀ {vs : List Value} {ps : List PV} {fp : List Addr}, Rps S h vs ps fp → ∀ b ∈ fp, b ∉ S.TB ∧ ∃ o, h.get? b = some o
  | _, _, _, .nil, _, hb => by cases hb
  | _, _, _, .cons a b, x, hb => (List.mem_append.mp hb).elim (a.lives x) (Rps.lives b x)

theorem Rps.length {S : Sys} {h : Heap} : ∀ {vs : List Value} {ps : List PV} {fp : List Addr}, Rps S h vs ps fp → vs.length = ps.length
  | _, _, _, .nil => rfl
  | _, _, _, .cons _ b => by rw [List.length_cons, List.length_cons, Rps.length b]

theorem Rps.get {S : Sys} {h : Heap} : ∀ {vs : List Value} {ps : List PV} {fp : List Addr}, Rps S h vs ps fp → ∀ {i : Nat} {p : PV}, ps[i]? = some p →
    ∃ v f, vs[i]? = some v ∧ Rp S h v p f ∧ ∀ b ∈ f, b ∈ fp
  | _, _, _, .nil, _, _, e => by simp at e
  | _, _, _, .cons (v := v) (f1 := f1) a b, 0, p, e => by
    simp at e; subst e
    exact ⟨v, f1, rfl, a, fun x hx => List.mem_append_left _ hx⟩
  | _, _, _, .cons a b, i + 1, p, e => by
    simp at e
    obtain ⟨v, f, e1, r, k⟩ := Rps.get b e
    exact ⟨v, f, by simpa using e1, r, fun x hx => List.mem_append_right _ (k x hx)⟩

theorem Rps.get' {S : Sys} {h : Heap} : ∀ {vs : List Value} {ps : List PV} {fp : List Addr}, Rps S h vs ps fp → ∀ {i : Nat} {v : Value}, vs[i]? = some v →
    ∃ p f, ps[i]? = some p ∧ Rp S h v p f ∧ ∀ b ∈ f, b ∈ fp
  | _, _, _, .nil, _, _, e => by simp at e
  | _, _, _, .cons (p := p) (f1 := f1) a b, 0, v, e => by
    simp at e; subst e
    exact ⟨p, f1, rfl, a, fun x hx => List.mem_append_left _ hx⟩
  | _, _, _, .cons a b, i + 1, v, e => by
    simp at e
    obtain ⟨p, f, e1, r, k⟩ := Rps.get' b e
    exact ⟨p, f, by simpa using e1, r, fun x hx => List.mem_append_right _ (k x hx)⟩

theorem Rps.append {S : Sys} {h : Heap} : ∀ {vs : List Value} {ps : List PV} {fp : List Addr}, Rps S h vs ps fp → ∀ {vs' : List Value} {ps' : List PV} {fp' : List Addr}, Rps S h vs' ps' fp' → Rps S h (vs ++ vs') (ps ++ ps') (fp ++ fp')
  | _, _, _, .nil, _, _, _, r => r
  | _, _, _, .cons a b, _, _, _, r => by rw [List.append_assoc]; exact .cons a (Rps.append b r)

inductive Own where
  | imm | mut | frz
  deriving DecidableEq

noncomputable abbrev Ro := List (Option (PV × Own))

noncomputable def Reads (env : Env) (h : Heap) (x : Str) (v : Value) : Prop :=
  (env.kindOf x = some .local ∧ ∃ m, h.Ns env.locals m ∧ m x = some v) ∨
  ((env.kindOf x = some .cell ∨ (env.kindOf x = some .free ∧ (x == ("__classdict__" : Str)) = false)) ∧ ∃ c, env.cells.lookup x = some c ∧ h.IsCell c (some v))

theorem loadCF {M : Model} {A : Around} {E : Value → Shared → Prop} {s : Shared} {env : Env} {name : Str} {c : Addr} {v : Value} {Q : Value → Shared → Prop} (hk : env.scope.kind = .function)
    (hl : env.kindOf name = some .cell ∨ (env.kindOf name = some .free ∧ (name == ("__classdict__" : Str)) = false)) (hc : env.cells.lookup name = some c) (hv : s.heap.IsCell c (some v)) (h : Q v s) : wpAny M A (loadName env name) Q E s := by
  rcases hl with hl | ⟨hl, hn⟩
  · exact wpAny_loadName_cell hk hl hc hv h
  · exact wpAny_loadName_free hk hl hc hv h hn

noncomputable def isCellOf (env : Env) (b : Addr) : Prop := ∃ n, env.cells.lookup n = some b

structure Var (S : Sys) (base : Heap) (env : Env) (h : Heap) (ρ : Ro) (rt : Nat → Addr) (i : Nat) (x : Str) (p : PV) (k : Own) (v : Value) (fp : List Addr) : Prop where
  rd : Reads env h x v
  rp : Rp S h v p fp
  loc : ∀ b ∈ fp, b ≠ env.locals ∧ ¬ isCellOf env b
  own : k ≠ .imm → v = .ref (rt i) ∧ (∀ b ∈ fp, base.get? b = none) ∧ (∃ ob, h.get? (rt i) = some ob ∧ ob.dict = none ∧ ∀ vs, ob.data ≠ .fields vs) ∧ ∃ fp', fp = rt i :: fp' ∧ rt i ∉ fp'
  sep : ∀ j q k', ρ[j]? = some (some (q, k')) → k' ≠ .imm → j ≠ i → rt j ∉ fp

structure Fm (S : Sys) (sc : Scope) (ns : List Str) (base : Heap) (env : Env) (h : Heap) (ρ : Ro) (rt : Nat → Addr) : Prop where
  gd : Gd S h
  kind : env.scope.kind = .function
  kinds : ∀ x, env.kindOf x = sc.names.lookup x ∨ (sc.names.lookup x = some .free ∧ env.kindOf x = some .cell)
  glob : env.globals = mainGlobals
  blt : env.builtins = builtinsNs
  top : ∀ b o, S.hT.get? b = some o → ∃ o', base.get? b = some o'
  alive : ∀ b o, base.get? b = some o → ∃ o', h.get? b = some o'
  nsB : base.get? env.locals = none
  ns1 : ∃ m, h.Ns env.locals m
  cellB : ∀ c, isCellOf env c → base.get? c = none ∧ ∃ v, h.IsCell c v
  cellInj : ∀ n n' c, env.cells.lookup n = some c → env.cells.lookup n' = some c → n = n'
  cellsAll : ∀ x, sc.names.lookup x = some .cell → (env.cells.lookup x).isSome = true
  len : ρ.length ≤ ns.length
  vars : ∀ i x p k, ns[i]? = some x → ρ[i]? = some (some (p, k)) → ∃ v fp, Var S base env h ρ rt i x p k v fp

theorem Fm.name {S : Sys} {sc : Scope} {ns : List Str} {base h : Heap} {env : Env} {ρ : Ro} {rt : Nat → Addr} (F : Fm S sc ns base env h ρ rt) {i : Nat} {q : Option (PV × Own)} (e : ρ[i]? = some q) : ∃ x, ns[i]? = some x := by
  have h1 : i < ρ.length := (List.getElem?_eq_some_iff.mp e).1
  have h2 : i < ns.length := Nat.lt_of_lt_of_le h1 F.len
  exact ⟨_, List.getElem?_eq_getElem h2⟩

noncomputable def KeepB (S : Sys) (b : Bool) (own : Addr → Prop) (h h' : Heap) : Prop := ∀ x o, ¬ own x → (b = true ∨ x ∉ S.TB) → h.get? x = some o → h'.get? x = some o

noncomputable def Kp (S : Sys) (b : Bool) (s s' : Shared) : Prop := ∃ h' tk, s' = { s with heap := h', toks := tk } ∧ KeepB S b (fun _ => False) s.heap h' ∧ Gd S h'

theorem Kp.refl {S : Sys} {b : Bool} {s : Shared} (G : Gd S s.heap) : Kp S b s s := ⟨s.heap, s.toks, rfl, fun _ _ _ _ e => e, G⟩
theorem Kp.trans {S : Sys} {b : Bool} {s s' s'' : Shared} (x : Kp S b s s') (y : Kp S b s' s'') : Kp S b s s'' := by
  obtain ⟨h, tk, rfl, k, _⟩ := x
  obtain ⟨h', tk', rfl, k', g'⟩ := y
  exact ⟨h', tk', rfl, fun x o a b e => k' x o a b (k x o a b e), g'⟩
theorem Kp.weak {S : Sys} {b : Bool} {s s' : Shared} (x : Kp S true s s') : Kp S b s s' := by
  obtain ⟨h, tk, rfl, k, g⟩ := x
  exact ⟨h, tk, rfl, fun x o a _ e => k x o a (.inl rfl) e, g⟩
theorem Kp.toks {S : Sys} {b : Bool} {s s' : Shared} (x : Kp S b s s') (tk : Nat) : Kp S b s { s' with toks := tk } := by
  obtain ⟨h, tk', rfl, k, g⟩ := x
  exact ⟨h, tk, rfl, k, g⟩
theorem Kp.gd {S : Sys} {b : Bool} {s s' : Shared} (x : Kp S b s s') : Gd S s'.heap := by
  obtain ⟨h, tk, rfl, k, g⟩ := x
  exact g
theorem Kp.keep {S : Sys} {b : Bool} {s s' : Shared} (x : Kp S b s s') : ∀ a o, a ∉ S.TB → s.heap.get? a = some o → s'.heap.get? a = some o := by
  obtain ⟨h, tk, rfl, k, g⟩ := x
  exact fun a o ha e => k a o id (.inr ha) e
theorem Kp.keeps {S : Sys} {s s' : Shared} (x : Kp S true s s') : ∀ a o, s.heap.get? a = some o → s'.heap.get? a = some o := by
  obtain ⟨h, tk, rfl, k, g⟩ := x
  exact fun a o e => k a o id (.inl rfl) e

theorem TabOk.keeps {S : Sys} {h h' : Heap} (G : TabOk S h) (k : ∀ b o, h.get? b = some o → h'.get? b = some o) : TabOk S h' := fun t ht => by
  obtain ⟨ps, e, r⟩ := G t ht
  refine ⟨ps, k _ _ e, r.imp id fun ⟨c', e1, e2⟩ => ⟨c', e1, e2.keeps k⟩⟩
theorem Gd.keeps {S : Sys} {h h' : Heap} (G : Gd S h) (k : ∀ b o, h.get? b = some o → h'.get? b = some o) : Gd S h' :=
  ⟨fun b o hb e => k _ _ (G.top b o hb e), G.tab.keeps k⟩
theorem Kp.of_keeps {S : Sys} {b : Bool} {s : Shared} {h' : Heap} {tk : Nat} (G : Gd S s.heap) (k : ∀ a o, s.heap.get? a = some o → h'.get? a = some o) : Kp S b s { s with heap := h', toks := tk } :=
  ⟨h', tk, rfl, fun x o _ _ e => k x o e, G.keeps k⟩


theorem TabOk.alive {S : Sys} {h h' : Heap} (G : Gd S h') (k : ∀ a o, a ∉ S.TB → h.get? a = some o → h'.get? a = some o) : ∀ a o, h.get? a = some o → ∃ o', h'.get? a = some o' := fun a o e => by
  by_cases ha : a ∈ S.TB
  · obtain ⟨ps, e'⟩ := tb_data G.tab ha; exact ⟨_, e'⟩
  · exact ⟨o, k a o ha e⟩

theorem Ns.notTB {S : Sys} {h : Heap} {a : Addr} {m : Str → Option Value} (G : Gd S h) (n : h.Ns a m) : a ∉ S.TB := fun ha => by
  obtain ⟨ps, e⟩ := tb_data G.tab ha
  obtain ⟨o, es, ep, e1, e2, _⟩ := n
  rw [e] at e1; cases e1; cases e2
theorem IsCell.notTB {S : Sys} {h : Heap} {a : Addr} {v : Option Value} (G : Gd S h) (n : h.IsCell a v) : a ∉ S.TB := fun ha => by
  obtain ⟨ps, e⟩ := tb_data G.tab ha
  obtain ⟨o, e1, e2⟩ := n
  rw [e] at e1; cases e1; cases e2
theorem IsCell.at' {h h' : Heap} {c : Addr} {v : Option Value} (x : h.IsCell c v) (e : ∀ o, h.get? c = some o → h'.get? c = some o) : h'.IsCell c v := let ⟨o, a, b⟩ := x; ⟨o, e _ a, b⟩

theorem Fm.nsTB {S : Sys} {sc : Scope} {ns : List Str} {base h : Heap} {env : Env} {ρ : Ro} {rt : Nat → Addr} (F : Fm S sc ns base env h ρ rt) : env.locals ∉ S.TB :=
  let ⟨_, n⟩ := F.ns1; Ns.notTB F.gd n

theorem Reads.grow {S : Sys} {env : Env} {h h' : Heap} {x : Str} {v : Value} (G : Gd S h) (k : ∀ a o, a ∉ S.TB → h.get? a = some o → h'.get? a = some o) (r : Reads env h x v) : Reads env h' x v := by
  rcases r with ⟨a, m, n, e⟩ | ⟨a, c, e, n⟩
  · exact .inl ⟨a, m, n.at' fun o ho => k _ o (Ns.notTB G n) ho, e⟩
  · exact .inr ⟨a, c, e, IsCell.at' n fun o ho => k _ o (IsCell.notTB G n) ho⟩

theorem Fm.grow {S : Sys} {sc : Scope} {ns : List Str} {base h h' : Heap} {env : Env} {ρ : Ro} {rt : Nat → Addr} (F : Fm S sc ns base env h ρ rt)
    (k : ∀ a o, a ∉ S.TB → h.get? a = some o → h'.get? a = some o) (g : Gd S h') : Fm S sc ns base env h' ρ rt where
  gd := g
  kind := F.kind
  kinds := F.kinds
  glob := F.glob
  blt := F.blt
  top := F.top
  alive := fun b o e => let ⟨o', e'⟩ := F.alive b o e; TabOk.alive g k b o' e'
  nsB := F.nsB
  ns1 := let ⟨m, n⟩ := F.ns1; ⟨m, n.at' fun o ho => k _ o F.nsTB ho⟩
  cellB := fun c hc => let ⟨a, v, n⟩ := F.cellB c hc; ⟨a, v, IsCell.at' n fun o ho => k _ o (IsCell.notTB F.gd n) ho⟩
  cellInj := F.cellInj
  cellsAll := F.cellsAll
  len := F.len
  vars := fun i x p q e1 e2 => by
    obtain ⟨v, fp, V⟩ := F.vars i x p q e1 e2
    refine ⟨v, fp, V.rd.grow F.gd k, V.rp.mono fun b hb o e => k b o (V.rp.lives b hb).1 e, V.loc, fun hq => ?_, V.sep⟩
    obtain ⟨a1, a2, ⟨ob, a3, a4⟩, a5⟩ := V.own hq
    obtain ⟨fp', a6, a7⟩ := a5
    exact ⟨a1, a2, ⟨ob, k _ _ (V.rp.lives _ (by rw [a6]; exact .head _)).1 a3, a4⟩, fp', a6, a7⟩

theorem Fm.kp {S : Sys} {sc : Scope} {ns : List Str} {base : Heap} {s s' : Shared} {b : Bool} {env : Env} {ρ : Ro} {rt : Nat → Addr} (F : Fm S sc ns base env s.heap ρ rt) (k : Kp S b s s') : Fm S sc ns base env s'.heap ρ rt :=
  F.grow k.keep k.gd

noncomputable def ownOf (env : Env) (ρ : Ro) (rt : Nat → Addr) (x : Addr) : Prop := x = env.locals ∨ isCellOf env x ∨ ∃ i p, ρ[i]? = some (some (p, Own.mut)) ∧ rt i = x

noncomputable def Clean (env : Env) (ρ : Ro) (rt : Nat → Addr) (fp : List Addr) : Prop := ∀ b ∈ fp, b ≠ env.locals ∧ ¬ isCellOf env b ∧ ∀ j q k, ρ[j]? = some (some (q, k)) → k ≠ .imm → rt j ≠ b

inductive Md where
  | R | N | C | F

noncomputable def MdOk : Md → Shared → Env → Ro → (Nat → Addr) → List Addr → Prop
  | .R, _, _, _, _, _ => True
  | .N, _, env, ρ, rt, fp => ∀ b ∈ fp, ¬ ownOf env ρ rt b
  | .C, _, env, ρ, rt, fp => Clean env ρ rt fp
  | .F, s, _, _, _, fp => ∀ b ∈ fp, s.heap.get? b = none

theorem MdOk.nil {q : Md} {s : Shared} {env : Env} {ρ : Ro} {rt : Nat → Addr} : MdOk q s env ρ rt [] := by
  cases q with
  | R => trivial
  | N => intro b hb; cases hb
  | C => intro b hb; cases hb
  | F => intro b hb; cases hb

theorem Clean.fresh {S : Sys} {sc : Scope} {ns : List Str} {base : Heap} {s : Shared} {env : Env} {ρ : Ro} {rt : Nat → Addr} {fp : List Addr} (F : Fm S sc ns base env s.heap ρ rt) (hf : ∀ b ∈ fp, s.heap.get? b = none) : Clean env ρ rt fp := by
  intro b hb
  have hb' := hf b hb
  refine ⟨?_, ?_, ?_⟩
  · rintro rfl
    obtain ⟨m, o, _, _, e, _⟩ := F.ns1
    rw [hb'] at e; cases e
  · intro hc
    obtain ⟨_, v, o, e, _⟩ := F.cellB b hc
    rw [hb'] at e; cases e
  · intro j q k e hk hr
    obtain ⟨x, ex⟩ := F.name e
    obtain ⟨v, fp', V⟩ := F.vars j x q k ex e
    obtain ⟨_, _, ⟨ob, e', _⟩, _⟩ := V.own hk
    rw [hr, hb'] at e'; cases e'

structure Room (d : Nat) (A : Around) : Prop where
  hd : A.handled = none
  depth : A.depth + d < recursionLimit
  units : A.units + 4 * d + 120 < cLine

theorem Room.lt {d : Nat} {A : Around} (r : Room d A) : A.depth < recursionLimit := by have := r.depth; (first | lia | omega)
noncomputable abbrev No : Value → Shared → Prop := fun _ _ => False

noncomputable def Ev (S : Sys) (sc : Scope) (ns : List Str) (b : Bool) (d : Nat) (q : Md) (ρ : Ro) (e : Expr) (p : PV) : Prop :=
  ∀ (A : Around) (base : Heap) (env : Env) (s : Shared) (rt : Nat → Addr) (Q : Value → Shared → Prop), Room d A → Fm S sc ns base env s.heap ρ rt →
    (∀ v s' fp, Kp S b s s' → Rp S s'.heap v p fp → MdOk q s env ρ rt fp → Q v s') → wpAny (model S.prog S.w) A (eval e env) Q No s

noncomputable def Tr (S : Sys) (sc : Scope) (ns : List Str) (b : Bool) (d : Nat) (ρ : Ro) (e : Expr) (t : Bool) : Prop :=
  ∀ (A : Around) (base : Heap) (env : Env) (s : Shared) (rt : Nat → Addr) (Q : Bool → Shared → Prop), Room d A → Fm S sc ns base env s.heap ρ rt →
    (∀ s', Kp S b s s' → Q t s') → wpAny (model S.prog S.w) A (isTrue e env (eval e env)) Q No s

inductive Out where
  | next (ρ : Ro)
  | brk (ρ : Ro)
  | cont (ρ : Ro)
  | ret (p : PV)

noncomputable def RootOk (ρ : Ro) (rt : Nat → Addr) (h : Heap) (ρ' : Ro) (rt' : Nat → Addr) : Prop :=
  ∀ i p k, ρ'[i]? = some (some (p, k)) → k ≠ .imm → (rt' i = rt i ∧ ∃ p', ρ[i]? = some (some (p', k))) ∨ h.get? (rt' i) = none

structure Stp (S : Sys) (b : Bool) (env : Env) (ρ : Ro) (rt : Nat → Addr) (s s' : Shared) : Prop where
  same : ∃ h' tk, s' = { s with heap := h', toks := tk }
  keep : KeepB S b (ownOf env ρ rt) s.heap s'.heap
  alive : ∀ x o, s.heap.get? x = some o → ∃ o', s'.heap.get? x = some o'

noncomputable def NextIs (S : Sys) (sc : Scope) (ns : List Str) (b : Bool) (base : Heap) (env : Env) (ρ : Ro) (rt : Nat → Addr) (s s' : Shared) (ρ' : Ro) : Prop :=
  Stp S b env ρ rt s s' ∧ ∃ rt', RootOk ρ rt s.heap ρ' rt' ∧ Fm S sc ns base env s'.heap ρ' rt'

noncomputable def OutIs (S : Sys) (sc : Scope) (ns : List Str) (b : Bool) (base : Heap) (env : Env) (ρ : Ro) (rt : Nat → Addr) (s : Shared) (f : Flow) (s' : Shared) : Out → Prop
  | .next ρ' => f = .next ∧ NextIs S sc ns b base env ρ rt s s' ρ'
  | .brk ρ' => f = .brk ∧ NextIs S sc ns b base env ρ rt s s' ρ'
  | .cont ρ' => f = .cont ∧ NextIs S sc ns b base env ρ rt s s' ρ'
  | .ret p => ∃ v fp, f = .ret v ∧ Stp S b env ρ rt s s' ∧ Gd S s'.heap ∧ Rp S s'.heap v p fp ∧ ∀ x ∈ fp, base.get? x = none

noncomputable def Sx (S : Sys) (sc : Scope) (ns : List Str) (b : Bool) (d : Nat) (ρ : Ro) (stmts : List Stmt) (Φ : Out → Prop) : Prop :=
  ∀ (A : Around) (base : Heap) (env : Env) (s : Shared) (rt : Nat → Addr) (Q : Flow → Shared → Prop), Room d A → Fm S sc ns base env s.heap ρ rt →
    (∀ o f s', Φ o → OutIs S sc ns b base env ρ rt s f s' o → Q f s') → wpAny (model S.prog S.w) A (execs stmts env) Q No s

noncomputable def S1 (S : Sys) (sc : Scope) (ns : List Str) (b : Bool) (d : Nat) (ρ : Ro) (st : Stmt) (Φ : Out → Prop) : Prop :=
  ∀ (A : Around) (base : Heap) (env : Env) (s : Shared) (rt : Nat → Addr) (Q : Flow → Shared → Prop), Room d A → Fm S sc ns base env s.heap ρ rt →
    (∀ o f s', Φ o → OutIs S sc ns b base env ρ rt s f s' o → Q f s') → wpAny (model S.prog S.w) A (exec st env) Q No s
end Mine
open PySem PySem.Calls PyProof.Rows PySem.W
set_option Elab.async false
namespace Mine

structure Sys.Ok (S : Sys) (mg mb : Str → Option Value) : Prop where
  gdT : Gd S S.hT
  nolimit : S.hT.NoLimit
  g : S.hT.Ns mainGlobals mg
  b : S.hT.Ns builtinsNs mb
  blt : ∀ x : Str, x ≠ "__name__" → mb x = bootBuiltins x

section
variable {S : Sys} {sc : Scope} {ns : List Str} {base : Heap} {env : Env} {s s' : Shared} {ρ : Ro} {rt : Nat → Addr} {b : Bool} {d : Nat} {q : Md} {p p1 p2 : PV} {mg mb : Str → Option Value}

theorem Sys.Ok.nsAt {S : Sys} {mg mb m : Str → Option Value} {h : Heap} {a : Addr} (W : S.Ok mg mb) (G : Gd S h) (n : S.hT.Ns a m) : h.Ns a m := n.at' fun o e => G.top _ o (Ns.notTB W.gdT n) e
theorem Sys.Ok.lim {S : Sys} {mg mb : Str → Option Value} {h : Heap} (W : S.Ok mg mb) (G : Gd S h) : h.NoLimit := let ⟨mc, n, e⟩ := W.nolimit; ⟨mc, W.nsAt G n, e⟩

theorem MdOk.ofF {fp : List Addr} (F : Fm S sc ns base env s.heap ρ rt) (hf : ∀ x ∈ fp, s.heap.get? x = none) : ∀ q : Md, MdOk q s env ρ rt fp
  | .R => trivial
  | .F => hf
  | .C => Clean.fresh F hf
  | .N => fun x hx ho => by
    have c := Clean.fresh F hf x hx
    rcases ho with ho | ho | ⟨i, p, e, hr⟩
    · exact c.1 ho
    · exact c.2.1 ho
    · exact c.2.2 i p .mut e (by intro h; cases h) hr

theorem Kp.dead {a : Addr} (k : Kp S b s s') (e : s'.heap.get? a = none) : s.heap.get? a = none := by
  cases h : s.heap.get? a with
  | none => rfl
  | some o =>
    obtain ⟨o', e'⟩ := TabOk.alive k.gd k.keep a o h
    rw [e] at e'; cases e'

noncomputable def Post (S : Sys) (b : Bool) (s : Shared) (p : PV) (Q : Value → Shared → Prop) : Prop :=
  ∀ v s' fp, Kp S b s s' → Rp S s'.heap v p fp → (∀ x ∈ fp, s.heap.get? x = none) → Q v s'

noncomputable def Op1 (S : Sys) (b : Bool) (d : Nat) (t : Value → Sem Value) (p1 p : PV) : Prop :=
  ∀ (A : Around) (s : Shared) (v1 : Value) (f1 : List Addr) (Q : Value → Shared → Prop), Room d A → Gd S s.heap → Rp S s.heap v1 p1 f1 →
    Post S b s p Q → wpAny (model S.prog S.w) A (t v1) Q No s
noncomputable def Op2 (S : Sys) (b : Bool) (d : Nat) (t : Value → Value → Sem Value) (p1 p2 p : PV) : Prop :=
  ∀ (A : Around) (s : Shared) (v1 v2 : Value) (f1 f2 : List Addr) (Q : Value → Shared → Prop), Room d A → Gd S s.heap → Rp S s.heap v1 p1 f1 → Rp S s.heap v2 p2 f2 →
    Post S b s p Q → wpAny (model S.prog S.w) A (t v1 v2) Q No s

theorem Post.int {i : Int} {t : Tok} {tk : Nat} {Q : Value → Shared → Prop} (G : Gd S s.heap) (h : Post S b s (.int i) Q) : Q (.int i t) { s with toks := tk } :=
  h _ _ [] ((Kp.refl G).toks tk) (.int i t) (fun x hx => by cases hx)
theorem Post.str {x : Str} {t : Tok} {tk : Nat} {Q : Value → Shared → Prop} (G : Gd S s.heap) (h : Post S b s (.str x) Q) : Q (.str x t) { s with toks := tk } :=
  h _ _ [] ((Kp.refl G).toks tk) (.str x t) (fun x hx => by cases hx)
theorem Post.kpInt {i : Int} {t : Tok} {Q : Value → Shared → Prop} (k : Kp S b s s') (h : Post S b s (.int i) Q) : Q (.int i t) s' := h _ _ [] k (.int i t) (fun x hx => by cases hx)
theorem Post.kpStr {x : Str} {t : Tok} {Q : Value → Shared → Prop} (k : Kp S b s s') (h : Post S b s (.str x) Q) : Q (.str x t) s' := h _ _ [] k (.str x t) (fun x hx => by cases hx)
theorem Post.kpBool {c : Bool} {Q : Value → Shared → Prop} (k : Kp S b s s') (h : Post S b s (.bool c) Q) : Q (.bool c) s' := h _ _ [] k (.bool c) (fun x hx => by cases hx)

theorem Ev.op2 {l r : Expr} {op : Operator} {pos : Pos} {q1 q2 : Md} (h1 : Ev S sc ns b d q1 ρ l p1) (h2 : Ev S sc ns b d q2 ρ r p2) (o : Op2 S b d (binaryOp op) p1 p2 p) : Ev S sc ns b d q ρ (.BinOp l op r pos) p := by
  intro A base env s rt Q R F hQ
  refine wpAny_BinOp (h1 A base env s rt _ R F fun v1 s1 f1 k1 r1 _ => ?_)
  refine h2 A base env s1 rt _ R (F.kp k1) fun v2 s2 f2 k2 r2 _ => ?_
  refine o A s2 v1 v2 f1 f2 Q R k2.gd (r1.mono fun x hx o e => k2.keep x o (r1.lives x hx).1 e) r2 fun v s3 fp k3 r3 hf => ?_
  exact hQ v s3 fp ((k1.trans k2).trans k3) r3 (MdOk.ofF F (fun x hx => k1.dead (k2.dead (hf x hx))) q)

theorem Ev.cmp {l r : Expr} {op : CmpOp} {pos : Pos} {q1 q2 : Md} (h1 : Ev S sc ns b d q1 ρ l p1) (h2 : Ev S sc ns b d q2 ρ r p2) (o : Op2 S b d (compareOp op) p1 p2 p)
    (hm : behindInMarks op r = false := by with_unfolding_all rfl) : Ev S sc ns b d q ρ (.Compare l [op] [r] pos) p := by
  intro A base env s rt Q R F hQ
  refine wpAny_Compare1 (h1 A base env s rt _ R F fun v1 s1 f1 k1 r1 _ => ?_) hm
  refine h2 A base env s1 rt _ R (F.kp k1) fun v2 s2 f2 k2 r2 _ => ?_
  refine o A s2 v1 v2 f1 f2 Q R k2.gd (r1.mono fun x hx o e => k2.keep x o (r1.lives x hx).1 e) r2 fun v s3 fp k3 r3 hf => ?_
  exact hQ v s3 fp ((k1.trans k2).trans k3) r3 (MdOk.ofF F (fun x hx => k1.dead (k2.dead (hf x hx))) q)

theorem Tr.cmp {l r : Expr} {op : CmpOp} {pos : Pos} {q1 q2 : Md} {t : Bool} (h1 : Ev S sc ns b d q1 ρ l p1) (h2 : Ev S sc ns b d q2 ρ r p2) (o : Op2 S b d (compareOp op) p1 p2 (.bool t))
    (hm : behindInMarks op r = false := by with_unfolding_all rfl) : Tr S sc ns b d ρ (.Compare l [op] [r] pos) t := by
  intro A base env s rt Q R F hQ
  refine wpAny_isTrue_Compare1 (h1 A base env s rt _ R F fun v1 s1 f1 k1 r1 _ => ?_) hm
  refine h2 A base env s1 rt _ R (F.kp k1) fun v2 s2 f2 k2 r2 _ => ?_
  refine o A s2 v1 v2 f1 f2 _ R k2.gd (r1.mono fun x hx o e => k2.keep x o (r1.lives x hx).1 e) r2 fun v s3 fp k3 r3 hf => ?_
  (first | obtain ⟨_, rfl, rfl⟩ := r3.inv | cases r3)
  exact wpAny_truthy_bool (hQ s3 ((k1.trans k2).trans k3))

theorem Ev.un {x : Expr} {op : UnaryOp} {pos : Pos} {q1 : Md} (h1 : Ev S sc ns b d q1 ρ x p1) (o : Op1 S b d (unaryOp op) p1 p) : Ev S sc ns b d q ρ (.UnaryOp op x pos) p := by
  intro A base env s rt Q R F hQ
  refine wpAny_UnaryOp (h1 A base env s rt _ R F fun v1 s1 f1 k1 r1 _ => ?_)
  refine o A s1 v1 f1 Q R k1.gd r1 fun v s3 fp k3 r3 hf => ?_
  exact hQ v s3 fp (k1.trans k3) r3 (MdOk.ofF F (fun x hx => k1.dead (hf x hx)) q)

theorem Ev.cint {i : Int} {k : Nat} {pos : Pos} : Ev S sc ns b d q ρ (.Constant (.int i) k pos) (.int i) := by
  intro A base env s rt Q R F hQ
  exact wpAny_Constant_int (hQ _ _ [] ((Kp.refl F.gd).toks _) (.int i _) MdOk.nil)
theorem Ev.cstr {x : Str} {k : Nat} {pos : Pos} : Ev S sc ns b d q ρ (.Constant (.str x) k pos) (.str x) := by
  intro A base env s rt Q R F hQ
  exact wpAny_Constant_str (hQ _ _ [] ((Kp.refl F.gd).toks _) (.str x _) MdOk.nil)
noncomputable def PV.atom : PV → Bool
  | .int _ | .bool _ | .none | .str _ => true
  | _ => false
theorem Rp.atomNil {h : Heap} {v : Value} {fp : List Addr} (r : Rp S h v p fp) (a : p.atom = true) : fp = [] := by
  (first | obtain ⟨_, rfl, rfl⟩ := r.inv | cases r) <;> first | rfl | cases a

noncomputable def varMd : Md → PV → Own → Bool
  | .R, _, _ => true
  | .N, p, k => p.atom || decide (k ≠ .mut)
  | .C, p, k => p.atom || decide (k = .imm)
  | .F, p, _ => p.atom

theorem Ev.var {x : Str} {pos : Pos} {k : Own} (i : Nat) (hn : ns[i]? = some x) (hρ : ρ[i]? = some (some (p, k))) (hq : varMd q p k = true) (hd : (x == ("__debug__" : Str)) = false := by decide) :
    Ev S sc ns b d q ρ (.Name x pos) p := by
  intro A base env s rt Q R F hQ
  obtain ⟨v, fp, V⟩ := F.vars i x p k hn hρ
  have fin : Q v s := by
    refine hQ v s fp (Kp.refl F.gd) V.rp ?_
    cases ha : p.atom with
    | true => rw [V.rp.atomNil ha]; exact MdOk.nil
    | false =>
      cases q with
      | R => trivial
      | F => rw [varMd, ha] at hq; cases hq
      | C =>
        have hk : k = .imm := by simpa [varMd, ha] using hq
        intro y hy
        refine ⟨(V.loc y hy).1, (V.loc y hy).2, fun j q' k' e hk' hr => ?_⟩
        by_cases hji : j = i
        · subst hji; rw [hρ] at e; cases e; exact hk' hk
        · exact V.sep j q' k' e hk' hji (hr ▸ hy)
      | N =>
        have hk : k ≠ .mut := by simpa [varMd, ha] using hq
        rintro y hy (ho | ho | ⟨j, q', e, hr⟩)
        · exact (V.loc y hy).1 ho
        · exact (V.loc y hy).2 ho
        · by_cases hji : j = i
          · subst hji; rw [hρ] at e; cases e; exact hk rfl
          · exact V.sep j q' .mut e (by intro h; cases h) hji (hr ▸ hy)
  rcases V.rd with ⟨a, m, n, e⟩ | ⟨a, c, e, n⟩
  · exact wpAny_Name (wpAny_loadName_local F.kind a n e fin) hd
  · exact wpAny_Name (loadCF F.kind a e n fin) hd

/-! ops on ints -/
theorem o_add {x y : Int} : Op2 S b d (binaryOp .Add) (.int x) (.int y) (.int (x + y)) := by
  intro A s v1 v2 f1 f2 Q R G r1 r2 h; (first | obtain ⟨_, rfl, rfl⟩ := r1.inv | cases r1); (first | obtain ⟨_, rfl, rfl⟩ := r2.inv | cases r2); exact PyProof.Rows.add_int (h.int G)
theorem o_sub {x y : Int} : Op2 S b d (binaryOp .Sub) (.int x) (.int y) (.int (x - y)) := by
  intro A s v1 v2 f1 f2 Q R G r1 r2 h; (first | obtain ⟨_, rfl, rfl⟩ := r1.inv | cases r1); (first | obtain ⟨_, rfl, rfl⟩ := r2.inv | cases r2); exact PyProof.Rows.sub_int (h.int G)
theorem o_mul {x y : Int} (hm : IntMulOk x y) : Op2 S b d (binaryOp .Mult) (.int x) (.int y) (.int (x * y)) := by
  intro A s v1 v2 f1 f2 Q R G r1 r2 h; (first | obtain ⟨_, rfl, rfl⟩ := r1.inv | cases r1); (first | obtain ⟨_, rfl, rfl⟩ := r2.inv | cases r2); exact PyProof.Rows.mul_int (h.int G) hm
theorem o_fdiv {x y : Int} (hy : y ≠ 0) (hp : y.natAbs.log2 < 9000) : Op2 S b d (binaryOp .FloorDiv) (.int x) (.int y) (.int (x.fdiv y)) := by
  intro A s v1 v2 f1 f2 Q R G r1 r2 h; (first | obtain ⟨_, rfl, rfl⟩ := r1.inv | cases r1); (first | obtain ⟨_, rfl, rfl⟩ := r2.inv | cases r2); exact PyProof.Rows.floordiv_int hy (h.int G) (.inl (PyProof.noPylong_of_log2 hp))
theorem o_mod {x y : Int} (hy : y ≠ 0) : Op2 S b d (binaryOp .Mod) (.int x) (.int y) (.int (x.fmod y)) := by
  intro A s v1 v2 f1 f2 Q R G r1 r2 h; (first | obtain ⟨_, rfl, rfl⟩ := r1.inv | cases r1); (first | obtain ⟨_, rfl, rfl⟩ := r2.inv | cases r2); exact PyProof.Rows.mod_int' hy (h.int G)
theorem o_pow {x y : Int} (hy : 0 ≤ y) (hsz : (Builtin.Int.intBits x : Int) * y ≤ 2 ^ 27) : Op2 S b d (binaryOp .Pow) (.int x) (.int y) (.int (x ^ y.toNat)) := by
  intro A s v1 v2 f1 f2 Q R G r1 r2 h; (first | obtain ⟨_, rfl, rfl⟩ := r1.inv | cases r1); (first | obtain ⟨_, rfl, rfl⟩ := r2.inv | cases r2); exact PyProof.Rows.pow_int hy hsz (h.int G)
theorem o_shl {x y : Int} (hy : 0 ≤ y) (hsz : (Builtin.Int.intBits x : Int) + y ≤ 2 ^ 27) : Op2 S b d (binaryOp .LShift) (.int x) (.int y) (.int (x * 2 ^ y.toNat)) := by
  intro A s v1 v2 f1 f2 Q R G r1 r2 h; (first | obtain ⟨_, rfl, rfl⟩ := r1.inv | cases r1); (first | obtain ⟨_, rfl, rfl⟩ := r2.inv | cases r2); exact PyProof.Rows.lshift_int hy hsz (h.int G)
theorem o_shr {x y : Int} (hy : 0 ≤ y) : Op2 S b d (binaryOp .RShift) (.int x) (.int y) (.int (x.fdiv (2 ^ y.toNat))) := by
  intro A s v1 v2 f1 f2 Q R G r1 r2 h; (first | obtain ⟨_, rfl, rfl⟩ := r1.inv | cases r1); (first | obtain ⟨_, rfl, rfl⟩ := r2.inv | cases r2); exact PyProof.Rows.rshift_int hy (h.int G)
theorem o_and {x y : Int} : Op2 S b d (binaryOp .BitAnd) (.int x) (.int y) (.int (Builtin.bitAnd x y)) := by
  intro A s v1 v2 f1 f2 Q R G r1 r2 h; (first | obtain ⟨_, rfl, rfl⟩ := r1.inv | cases r1); (first | obtain ⟨_, rfl, rfl⟩ := r2.inv | cases r2); exact PyProof.Rows.and_int (h.int G)
theorem o_xor {x y : Int} : Op2 S b d (binaryOp .BitXor) (.int x) (.int y) (.int (Builtin.bitXor x y)) := by
  intro A s v1 v2 f1 f2 Q R G r1 r2 h; (first | obtain ⟨_, rfl, rfl⟩ := r1.inv | cases r1); (first | obtain ⟨_, rfl, rfl⟩ := r2.inv | cases r2); exact PyProof.Rows.xor_int (h.int G)
theorem o_eq {x y : Int} : Op2 S b d (compareOp .Eq) (.int x) (.int y) (.bool (x == y)) := by
  intro A s v1 v2 f1 f2 Q R G r1 r2 h; (first | obtain ⟨_, rfl, rfl⟩ := r1.inv | cases r1); (first | obtain ⟨_, rfl, rfl⟩ := r2.inv | cases r2); exact PyProof.Rows.eq_int (h.kpBool (Kp.refl G))
theorem o_ne {x y : Int} : Op2 S b d (compareOp .NotEq) (.int x) (.int y) (.bool (x != y)) := by
  intro A s v1 v2 f1 f2 Q R G r1 r2 h; (first | obtain ⟨_, rfl, rfl⟩ := r1.inv | cases r1); (first | obtain ⟨_, rfl, rfl⟩ := r2.inv | cases r2); exact PyProof.Rows.ne_int (h.kpBool (Kp.refl G))
theorem o_lt {x y : Int} : Op2 S b d (compareOp .Lt) (.int x) (.int y) (.bool (decide (x < y))) := by
  intro A s v1 v2 f1 f2 Q R G r1 r2 h; (first | obtain ⟨_, rfl, rfl⟩ := r1.inv | cases r1); (first | obtain ⟨_, rfl, rfl⟩ := r2.inv | cases r2); exact PyProof.Rows.lt_int (h.kpBool (Kp.refl G))
theorem o_le {x y : Int} : Op2 S b d (compareOp .LtE) (.int x) (.int y) (.bool (decide (x ≤ y))) := by
  intro A s v1 v2 f1 f2 Q R G r1 r2 h; (first | obtain ⟨_, rfl, rfl⟩ := r1.inv | cases r1); (first | obtain ⟨_, rfl, rfl⟩ := r2.inv | cases r2); exact PyProof.Rows.le_int (h.kpBool (Kp.refl G))
theorem o_neg {x : Int} : Op1 S b d (unaryOp .USub) (.int x) (.int (-x)) := by
  intro A s v1 f1 Q R G r1 h; (first | obtain ⟨_, rfl, rfl⟩ := r1.inv | cases r1); exact PyProof.Rows.neg_int (h.int G)
theorem o_inv {x : Int} : Op1 S b d (unaryOp .Invert) (.int x) (.int (Builtin.bitNot x)) := by
  intro A s v1 f1 Q R G r1 h; (first | obtain ⟨_, rfl, rfl⟩ := r1.inv | cases r1); exact PyProof.Rows.invert_int (h.int G)
theorem o_sne {x y : Str} : Op2 S b d (compareOp .NotEq) (.str x) (.str y) (.bool (x != y)) := by
  intro A s v1 v2 f1 f2 Q R G r1 r2 h; (first | obtain ⟨_, rfl, rfl⟩ := r1.inv | cases r1); (first | obtain ⟨_, rfl, rfl⟩ := r2.inv | cases r2); exact PyProof.Rows.ne_str (h.kpBool (Kp.refl G))
theorem o_seq {x y : Str} : Op2 S b d (compareOp .Eq) (.str x) (.str y) (.bool (x == y)) := by
  intro A s v1 v2 f1 f2 Q R G r1 r2 h; (first | obtain ⟨_, rfl, rfl⟩ := r1.inv | cases r1); (first | obtain ⟨_, rfl, rfl⟩ := r2.inv | cases r2); exact PyProof.Rows.eq_str (h.kpBool (Kp.refl G))
end
end Mine
open PySem PySem.Calls PyProof.Rows PySem.W
set_option Elab.async false
namespace Mine
section
variable {S : Sys} {sc : Scope} {ns : List Str} {base : Heap} {env : Env} {s s' : Shared} {ρ : Ro} {rt : Nat → Addr} {b : Bool} {d : Nat} {q : Md} {p p1 p2 : PV} {mg mb : Str → Option Value}

noncomputable def Evs (S : Sys) (sc : Scope) (ns : List Str) (b : Bool) (d : Nat) (q : Md) (ρ : Ro) (es : List Expr) (ps : List PV) : Prop :=
  ∀ (A : Around) (base : Heap) (env : Env) (s : Shared) (rt : Nat → Addr) (pos : Pos) (Q : List Value → Shared → Prop), Room d A → Fm S sc ns base env s.heap ρ rt →
    (∀ vs s' fp, Kp S b s s' → Rps S s'.heap vs ps fp → MdOk q s env ρ rt fp → Q vs s') → wpAny (model S.prog S.w) A (spliced (backTo pos (starEach es env))) Q No s

theorem MdOk.append {f1 f2 : List Addr} (h1 : MdOk q s env ρ rt f1) (h2 : MdOk q s env ρ rt f2) : MdOk q s env ρ rt (f1 ++ f2) := by
  cases q with
  | R => trivial
  | N => exact fun x hx => (List.mem_append.mp hx).elim (h1 x) (h2 x)
  | C => exact fun x hx => (List.mem_append.mp hx).elim (h1 x) (h2 x)
  | F => exact fun x hx => (List.mem_append.mp hx).elim (h1 x) (h2 x)
theorem MdOk.back {fp : List Addr} (k : Kp S b s s') (h : MdOk q s' env ρ rt fp) : MdOk q s env ρ rt fp := by
  cases q with
  | R => trivial
  | N => exact h
  | C => exact h
  | F => exact fun x hx => k.dead (h x hx)

theorem Evs.nil : Evs S sc ns b d q ρ [] [] := by
  intro A base env s rt pos Q R F hQ
  exact spliced_nil (hQ [] s [] (Kp.refl F.gd) .nil MdOk.nil)
theorem Evs.cons {e : Expr} {es : List Expr} {ps : List PV} (h1 : Ev S sc ns b d q ρ e p) (h2 : Evs S sc ns b d q ρ es ps)
    (he : ∀ env, starEach (e :: es) env = (false, eval e env) :: starEach es env := by intro _; rfl) : Evs S sc ns b d q ρ (e :: es) (p :: ps) := by
  intro A base env s rt pos Q R F hQ
  refine wpAny_items_cons (h1 A base env s rt _ R F fun v s1 f1 k1 r1 m1 => ?_) (he env)
  refine h2 A base env s1 rt pos _ R (F.kp k1) fun vs s2 f2 k2 r2 m2 => ?_
  exact hQ (v :: vs) s2 (f1 ++ f2) (k1.trans k2) (.cons (r1.mono fun x hx o e => k2.keep x o (r1.lives x hx).1 e) r2) (m1.append (m2.back k1))

theorem Heap.push_keeps {h : Heap} (o : Obj) : ∀ a o', h.get? a = some o' → (h.push o).get? a = some o' := fun _ _ e => Heap.get?_push_of_some _ e
theorem fresh_size (h : Heap) : h.get? h.objs.size = none := by
  cases e : h.get? h.objs.size with
  | none => rfl
  | some o => exact absurd (Heap.lt_size e) (Nat.lt_irrefl _)
theorem fresh_ne {h : Heap} {a : Addr} {o : Obj} (e : h.get? a = some o) : a ≠ h.objs.size := fun h' => by rw [h', fresh_size] at e; cases e
theorem size_notTB {h : Heap} (G : Gd S h) : h.objs.size ∉ S.TB := fun hm => by
  obtain ⟨ps, e⟩ := tb_data G.tab hm
  rw [fresh_size] at e; cases e

theorem newListPost {vs : List Value} {ps : List PV} {fp : List Addr} (G : Gd S s.heap) (r : Rps S s.heap vs ps fp) :
    Kp S b s { s with heap := s.heap.push { cls := .type "list", data := .seq vs.toArray } } ∧
    Rp S (s.heap.push { cls := .type "list", data := .seq vs.toArray }) (.ref s.heap.objs.size) (.list ps) (s.heap.objs.size :: fp) := by
  refine ⟨⟨_, s.toks, rfl, fun x o _ _ e => Heap.get?_push_of_some _ e, G.keeps (Heap.push_keeps _)⟩, .list (size_notTB G) ⟨_, Heap.get?_push_size _ rfl⟩ (r.mono fun x _ o e => Heap.get?_push_of_some _ e)⟩
theorem newTupPost {vs : List Value} {ps : List PV} {fp : List Addr} (G : Gd S s.heap) (r : Rps S s.heap vs ps fp) :
    Kp S b s { s with heap := s.heap.push { cls := .type "tuple", data := .seq vs.toArray } } ∧
    Rp S (s.heap.push { cls := .type "tuple", data := .seq vs.toArray }) (.ref s.heap.objs.size) (.tup ps) (s.heap.objs.size :: fp) := by
  refine ⟨⟨_, s.toks, rfl, fun x o _ _ e => Heap.get?_push_of_some _ e, G.keeps (Heap.push_keeps _)⟩, .tup (size_notTB G) ⟨_, Heap.get?_push_size _ rfl, rfl, _, rfl⟩ (r.mono fun x _ o e => Heap.get?_push_of_some _ e)⟩

theorem Ev.list {es : List Expr} {ps : List PV} {pos : Pos} (h : Evs S sc ns b d .F ρ es ps) (hsz : ps.length ≤ sizeLine := by decide) : Ev S sc ns b d q ρ (.List es pos) (.list ps) := by
  intro A base env s rt Q R F hQ
  refine wpAny_List (h A base env s rt pos _ R F fun vs s1 fp k1 r1 m1 => ?_)
  obtain ⟨k2, r2⟩ := newListPost (b := b) k1.gd r1
  refine ⟨by rw [r1.length]; exact hsz, hQ _ _ _ (k1.trans k2) r2 (MdOk.ofF F (fun x hx => ?_) q)⟩
  rcases List.mem_cons.mp hx with rfl | hx
  · exact k1.dead (fresh_size _)
  · exact m1 x hx
theorem Ev.tup {es : List Expr} {ps : List PV} {k : Nat} {pos : Pos} (h : Evs S sc ns b d .F ρ es ps) (hsz : ps.length ≤ sizeLine := by decide) : Ev S sc ns b d q ρ (.Tuple es k pos) (.tup ps) := by
  intro A base env s rt Q R F hQ
  refine wpAny_Tuple (h A base env s rt pos _ R F fun vs s1 fp k1 r1 m1 => ?_)
  obtain ⟨k2, r2⟩ := newTupPost (b := b) k1.gd r1
  refine ⟨by rw [r1.length]; exact hsz, hQ _ _ _ (k1.trans k2) r2 (MdOk.ofF F (fun x hx => ?_) q)⟩
  rcases List.mem_cons.mp hx with rfl | hx
  · exact k1.dead (fresh_size _)
  · exact m1 x hx

noncomputable def CallOk (S : Sys) (b : Bool) (d : Nat) (fv : Value) (ps : List PV) (p : PV) : Prop :=
  ∀ (A : Around) (s : Shared) (vs : List Value) (fp : List Addr) (Q : Value → Shared → Prop), Room d A → Gd S s.heap → Rps S s.heap vs ps fp →
    Post S b s p Q → wpAny (model S.prog S.w) A (call fv vs) Q No s

inductive GName (S : Sys) (sc : Scope) (f : Str) (fv : Value) : Prop
  | glob {mg mb : Str → Option Value} : S.Ok mg mb → sc.names.lookup f = some .globalImplicit → mg f = some fv → GName S sc f fv
  | blt {mg mb : Str → Option Value} : S.Ok mg mb → sc.names.lookup f = some .globalImplicit → mg f = none → bootBuiltins f = some fv → f ≠ "__name__" → GName S sc f fv

theorem GName.eval {A : Around} {f : Str} {fv : Value} {pos : Pos} {Q : Value → Shared → Prop} (n : GName S sc f fv) (F : Fm S sc ns base env s.heap ρ rt) (h : Q fv s) (hd : (f == ("__debug__" : Str)) = false) :
    wpAny (model S.prog S.w) A (eval (.Name f pos) env) Q No s := by
  have kd : ∀ {k}, sc.names.lookup f = some .globalImplicit → env.kindOf f = some k → k = .globalImplicit := fun e1 e2 => by
    rcases F.kinds f with h | ⟨h, _⟩
    · rw [e1, e2] at h; exact Option.some.inj h
    · rw [e1] at h; cases h
  have kd' : sc.names.lookup f = some .globalImplicit → env.kindOf f = some .globalImplicit := fun e1 => by
    rcases F.kinds f with h | ⟨h, _⟩
    · rw [h, e1]
    · rw [e1] at h; cases h
  cases n with
  | glob W e1 e2 => exact Name_function_global F.kind (kd' e1) (loadGlobal_global (F.glob ▸ W.nsAt F.gd W.g) e2 h) hd
  | blt W e1 e2 e3 e4 => exact Name_function_global F.kind (kd' e1) (loadGlobal_builtin (F.glob ▸ W.nsAt F.gd W.g) e2 (F.blt ▸ W.nsAt F.gd W.b) ((W.blt f e4).trans e3) h) hd

inductive Callee (S : Sys) : Value → Prop
  | blt (id : String) : Callee S (.builtin id)
  | type (T : String) : Callee S (.type T)
  | fn {a : Addr} {o : Obj} {fd : FuncData} : S.hT.get? a = some o → a ∉ S.TB → o.data = .func fd → Callee S (.ref a)

theorem callWith_ok {A : Around} {fv : Value} {pos : Pos} {e : Expr} {es : List Expr} {ps : List PV} {Q : Value → Shared → Prop} (c : Callee S fv) (ha : Evs S sc ns b d q ρ (e :: es) ps) (R : Room d A) (F : Fm S sc ns base env s.heap ρ rt)
    (he : starEach (e :: es) env = (false, eval e env) :: starEach es env) (hp : (backTo pos (starEach (e :: es) env)).any (·.1) = false)
    (h : ∀ vs s' fp, Kp S b s s' → Rps S s'.heap vs ps fp → wpAny (model S.prog S.w) A (call fv vs) Q No s') :
    wpAny (model S.prog S.w) A (callWith pos fv [] (backTo pos (starEach (e :: es) env)) []) Q No s := by
  have ev : ∀ f (Q' : Args → Shared → Prop), (∀ vs s' fp, Kp S b s s' → Rps S s'.heap vs ps fp → Q' ⟨vs, []⟩ s') → wpAny (model S.prog S.w) A (evalArgs f true (backTo pos (starEach (e :: es) env)) []) Q' No s := by
    intro f Q' hQ'
    have hb : backTo pos (starEach (e :: es) env) = (false, eval e env) :: backTo pos (starEach es env) := by rw [he]; rfl
    have := ha A base env s rt pos (fun vs s' => Q' ⟨vs, []⟩ s') R F fun vs s' fp k r _ => hQ' vs s' fp k r
    rw [hb] at this ⊢
    exact evalArgs_plain this
  cases c with
  | blt id => exact callWith_builtin hp (ev _ _ fun vs s' fp k r => h vs s' fp k r)
  | type T => exact PySem.callWith_type hp (ev _ _ fun vs s' fp k r => h vs s' fp k r)
  | fn e1 e2 e3 => exact callWith_function (ev _ _ fun vs s' fp k r => ⟨⟨k.gd.top _ _ e2 e1, e3⟩, h vs s' fp k r⟩)

theorem Ev.call {f : Str} {fv : Value} {np pos : Pos} {e : Expr} {es : List Expr} {ps : List PV} {q1 : Md} (n : GName S sc f fv) (c : Callee S fv) (ha : Evs S sc ns b d q1 ρ (e :: es) ps) (ho : CallOk S b d fv ps p)
    (hd : (f == ("__debug__" : Str)) = false := by decide)
    (he : ∀ env, starEach (e :: es) env = (false, eval e env) :: starEach es env := by intro _; rfl) (hp : ∀ env, (backTo pos (starEach (e :: es) env)).any (·.1) = false := by intro _; rfl) :
    Ev S sc ns b d q ρ (.Call (.Name f np) (e :: es) [] pos) p := by
  intro A base env s rt Q R F hQ
  refine wpAny_Call_NameR (n.eval F ?_ hd)
  refine callWith_ok c ha R F (he env) (hp env) fun vs s1 fp k1 r1 => ?_
  exact ho A s1 vs fp Q R k1.gd r1 fun v s3 fp k3 r3 hf => hQ v s3 fp (k1.trans k3) r3 (MdOk.ofF F (fun x hx => k1.dead (hf x hx)) q)

theorem Ev.meth {o : Expr} {name : Str} {apos pos : Pos} {e : Expr} {es : List Expr} {ps : List PV} {T id : String} {q0 q1 : Md} (pa : PlainAttrs T) (slot : Slot T name id) (hty : typeOf (.builtin id) = pure (.type "method_descriptor"))
    (h0 : Ev S sc ns b d q0 ρ o p1) (hT : ∀ (s : Shared) v fp, Rp S s.heap v p1 fp → s.TypeIs v T ∧ ∀ a, v = .ref a → ∃ ob, s.heap.get? a = some ob ∧ ob.dict = none)
    (ha : Evs S sc ns b d q1 ρ (e :: es) ps) (ho : CallOk S b d (.builtin id) (p1 :: ps) p)
    (hbase : ∀ env t, attributeBase o name env t = t := by intro _ _; rfl)
    (hfew : ∀ env, ((backTo pos (starEach (e :: es) env)).all (fun x => !x.1) && (backToKw pos (keywordEach [] env)).all (fun x => x.1.isSome)
      && decide ((e :: es).length + ([] : List Keyword).length + (if ([] : List Keyword).isEmpty then 0 else 1) < 30)) = true := by intro _; rfl)
    (hline : (apos.endLine == pos.line) = true := by rfl)
    (he : ∀ env, starEach (e :: es) env = (false, eval e env) :: starEach es env := by intro _; rfl)
    (hp : ∀ env, (backTo pos (starEach (e :: es) env)).any (·.1) = false := by intro _; rfl) :
    Ev S sc ns b d q ρ (.Call (.Attribute o name apos) (e :: es) [] pos) p := by
  intro A base env s rt Q R F hQ
  refine wpAny_Call_method (hbase env _) (hfew env) hline pa slot hty (h0 A base env s rt _ R F fun v0 s1 f0 k1 r0 _ => ?_)
  obtain ⟨t1, t2⟩ := hT s1 v0 f0 r0
  refine ⟨t1, t2, callWith_builtin (hp env) ?_⟩
  have fin : ∀ vs s2 f2, Kp S b s1 s2 → Rps S s2.heap vs ps f2 → wpAny (model S.prog S.w) A (PySem.call (.builtin id) ([v0] ++ vs) []) Q No s2 := fun vs s2 f2 k2 r2 => by
    refine ho A s2 (v0 :: vs) (f0 ++ f2) Q R k2.gd (.cons (r0.mono fun x hx o e => k2.keep x o (r0.lives x hx).1 e) r2) fun v s3 fp k3 r3 hf => ?_
    exact hQ v s3 fp ((k1.trans k2).trans k3) r3 (MdOk.ofF F (fun x hx => k1.dead (k2.dead (hf x hx))) q)
  have hb : backTo pos (starEach (e :: es) env) = (false, eval e env) :: backTo pos (starEach es env) := by rw [he env]; rfl
  have := ha A base env s1 rt pos (fun vs s' => wpAny (model S.prog S.w) A (PySem.call (.builtin id) ([v0] ++ vs) []) Q No s') R (F.kp k1) fun vs s' fp k r _ => fin vs s' fp k r
  rw [hb] at this ⊢
  exact evalArgs_plain this
theorem Ev.meth0 {o : Expr} {name : Str} {apos pos : Pos} {T id : String} {q0 : Md} (pa : PlainAttrs T) (slot : Slot T name id) (hty : typeOf (.builtin id) = pure (.type "method_descriptor"))
    (h0 : Ev S sc ns b d q0 ρ o p1) (hT : ∀ (s : Shared) v fp, Rp S s.heap v p1 fp → s.TypeIs v T ∧ ∀ a, v = .ref a → ∃ ob, s.heap.get? a = some ob ∧ ob.dict = none)
    (ho : CallOk S b d (.builtin id) [p1] p)
    (hbase : ∀ env t, attributeBase o name env t = t := by intro _ _; rfl)
    (hline : (apos.endLine == pos.line) = true := by rfl) :
    Ev S sc ns b d q ρ (.Call (.Attribute o name apos) [] [] pos) p := by
  intro A base env s rt Q R F hQ
  refine wpAny_Call_method (hbase env _) rfl hline pa slot hty (h0 A base env s rt _ R F fun v0 s1 f0 k1 r0 _ => ?_)
  obtain ⟨t1, t2⟩ := hT s1 v0 f0 r0
  refine ⟨t1, t2, callWith_builtin rfl (PySem.evalArgs_none ?_)⟩
  refine ho A s1 [v0] (f0 ++ []) Q R k1.gd (.cons r0 .nil) fun v s3 fp k3 r3 hf => ?_
  exact hQ v s3 fp (k1.trans k3) r3 (MdOk.ofF F (fun x hx => k1.dead (hf x hx)) q)
end
end Mine
open PySem PySem.Calls PyProof.Rows PySem.W
set_option Elab.async false
namespace Mine
section
variable {S : Sys} {sc : Scope} {ns : List Str} {base : Heap} {env : Env} {s s' : Shared} {ρ : Ro} {rt : Nat → Addr} {b : Bool} {d : Nat} {q : Md} {p p1 p2 : PV} {mg mb : Str → Option Value}

noncomputable abbrev PV.ints (l : List Int) : PV := .list (l.map .int)
noncomputable abbrev PV.strs (l : List Str) : PV := .list (l.map .str)

theorem Rps.ints {h : Heap} : ∀ {l : List Int} {vs : List Value} {fp : List Addr}, Rps S h vs (l.map .int) fp → IntsAre vs l ∧ fp = []
  | [], _, _, r => by (first | obtain ⟨_, rfl, rfl⟩ := r.inv | cases r); exact ⟨.nil, rfl⟩
  | i :: l, _, _, r => by
    rw [List.map_cons] at r
    cases r with
    | cons a b =>
      cases a
      obtain ⟨x, rfl⟩ := Rps.ints b
      exact ⟨.cons _ _ x, rfl⟩
theorem Rps.strs {h : Heap} : ∀ {l : List Str} {vs : List Value} {fp : List Addr}, Rps S h vs (l.map .str) fp → StrsAre vs l ∧ fp = []
  | [], _, _, r => by (first | obtain ⟨_, rfl, rfl⟩ := r.inv | cases r); exact ⟨.nil, rfl⟩
  | i :: l, _, _, r => by
    rw [List.map_cons] at r
    cases r with
    | cons a b =>
      cases a
      obtain ⟨x, rfl⟩ := Rps.strs b
      exact ⟨.cons _ _ x, rfl⟩
theorem Rps.ofInts {h : Heap} {l : List Int} {vs : List Value} (r : IntsAre vs l) : Rps S h vs (l.map .int) [] := by
  induction r with
  | nil => exact .nil
  | cons n t _ ih => exact .cons (f1 := []) (.int n t) ih
theorem Rps.ofStrs {h : Heap} {l : List Str} {vs : List Value} (r : StrsAre vs l) : Rps S h vs (l.map .str) [] := by
  induction r with
  | nil => exact .nil
  | cons n t _ ih => exact .cons (f1 := []) (.str n t) ih
theorem Rp.ints {h : Heap} {l : List Int} {v : Value} {fp : List Addr} (r : Rp S h v (.ints l) fp) : ∃ a vs, v = .ref a ∧ fp = [a] ∧ a ∉ S.TB ∧ h.IsList a vs.toArray ∧ IntsAre vs l := by
  cases r with
  | list h1 h2 h3 => obtain ⟨x, rfl⟩ := h3.ints; exact ⟨_, _, rfl, rfl, h1, h2.isList, x⟩
theorem Rp.strs {h : Heap} {l : List Str} {v : Value} {fp : List Addr} (r : Rp S h v (.strs l) fp) : ∃ a vs, v = .ref a ∧ fp = [a] ∧ a ∉ S.TB ∧ h.IsList a vs.toArray ∧ StrsAre vs l := by
  cases r with
  | list h1 h2 h3 => obtain ⟨x, rfl⟩ := h3.strs; exact ⟨_, _, rfl, rfl, h1, h2.isList, x⟩

theorem Rps.one {h : Heap} {vs : List Value} {fp : List Addr} (r : Rps S h vs [p] fp) : ∃ v, vs = [v] ∧ Rp S h v p fp := by
  cases r with
  | cons a b => cases b; rw [List.append_nil]; exact ⟨_, rfl, a⟩
theorem Rps.two {h : Heap} {vs : List Value} {fp : List Addr} (r : Rps S h vs [p1, p2] fp) : ∃ v1 v2 f1 f2, vs = [v1, v2] ∧ fp = f1 ++ f2 ∧ Rp S h v1 p1 f1 ∧ Rp S h v2 p2 f2 := by
  cases r with
  | cons a b =>
    obtain ⟨v, rfl, r⟩ := Rps.one b
    exact ⟨_, _, _, _, rfl, rfl, a, r⟩

theorem c_lenList {ps : List PV} (hf : (ps.length : Int) < 2 ^ 63) : CallOk S b d (.builtin "len") [.list ps] (.int ps.length) := by
  intro A s vs fp Q R G r h
  obtain ⟨v, rfl, r'⟩ := r.one
  cases r' with
  | list h1 h2 h3 =>
    refine call_len_list h2.isList ?_ ?_
    · rw [List.size_toArray, h3.length]; exact hf
    · rw [List.size_toArray, h3.length]; exact h.int G
theorem c_sum {l : List Int} : CallOk S b d (.builtin "sum") [.ints l] (.int l.sum) := by
  intro A s vs fp Q R G r h
  obtain ⟨v, rfl, r'⟩ := r.one
  obtain ⟨a, vs, rfl, rfl, _, hl, hi⟩ := r'.ints
  obtain ⟨xs, e⟩ := hi.allInts.items
  rw [e] at hl
  refine sum_intListG R.hd hl fun h' tk t' hk => ?_
  have e2 : preSum (numAt xs) xs.size = l.sum := by
    rw [preSum_eq, List.take_of_length_le (by simp), ← nums_intItems, ← e]
    rw [show vs.toArray.toList = vs from rfl, hi.numsOf]
  rw [e2]
  exact h.kpInt (Kp.of_keeps G hk)
theorem c_min {x y : Int} : CallOk S b d (.builtin "min") [.int x, .int y] (.int (min x y)) := by
  intro A s vs fp Q R G r h
  obtain ⟨v1, v2, f1, f2, rfl, rfl, r1, r2⟩ := r.two
  (first | obtain ⟨_, rfl, rfl⟩ := r1.inv | cases r1); (first | obtain ⟨_, rfl, rfl⟩ := r2.inv | cases r2)
  refine min_two_ints R.hd fun h' tk hk => ?_
  split
  · rename_i hc
    have e : min x y = y := by (first | lia | omega)
    rw [e] at h
    exact h.kpInt (Kp.of_keeps G hk)
  · rename_i hc
    have e : min x y = x := by (first | lia | omega)
    rw [e] at h
    exact h.kpInt (Kp.of_keeps G hk)
theorem c_divmod {x y : Int} (hy : y ≠ 0) (hp : y.natAbs.log2 < 9000) : CallOk S b d (.builtin "divmod") [.int x, .int y] (.tup [.int (x.fdiv y), .int (x.fmod y)]) := by
  intro A s vs fp Q R G r h
  obtain ⟨v1, v2, f1, f2, rfl, rfl, r1, r2⟩ := r.two
  (first | obtain ⟨_, rfl, rfl⟩ := r1.inv | cases r1); (first | obtain ⟨_, rfl, rfl⟩ := r2.inv | cases r2)
  refine divmod_int hy ?_ (.inl (PyProof.noPylong_of_log2 hp))
  obtain ⟨k, r⟩ := newTupPost (b := b) (vs := [.int (x.fdiv y) s.toks, .int (x.fmod y) (s.toks + 1)]) G (.cons (.int _ _) (.cons (.int _ _) .nil))
  exact h _ _ _ (k.toks _) r fun z hz => by
    rcases List.mem_cons.mp hz with rfl | hz
    · exact fresh_size _
    · cases hz
theorem c_hex {x : Int} (hsz : (baseText "0x" 16 x).length ≤ sizeLine) : CallOk S b d (.builtin "hex") [.int x] (.str (baseText "0x" 16 x)) := by
  intro A s vs fp Q R G r h
  obtain ⟨v, rfl, r'⟩ := r.one
  cases r'
  exact PySem.P.hex_of_int (h.str G) hsz
theorem c_join {x : Str} {ys : List Str} (hok : (ys.map (·.length)).sum + ys.length * x.length ≤ 16777216) : CallOk S b d (.builtin "str.join") [.str x, .strs ys] (.str (Txt.join x ys)) := by
  intro A s vs fp Q R G r h
  obtain ⟨v1, v2, f1, f2, rfl, rfl, r1, r2⟩ := r.two
  (first | obtain ⟨_, rfl, rfl⟩ := r1.inv | cases r1)
  obtain ⟨a, vs, rfl, rfl, _, hl, hi⟩ := r2.strs
  exact join_list hl hi hok fun t' k => h.kpStr ((Kp.refl G).toks _)
theorem c_bits {x : Int} : CallOk S b d (.builtin "int.bit_length") [.int x] (.int (Builtin.Int.intBits x : Nat)) := by
  intro A s vs fp Q R G r h
  obtain ⟨v, rfl, r'⟩ := r.one
  cases r'
  exact call_gives F.slot_int_bit_length (typeIs_int _ _ _) F.entry_int_bit_length (F.args_int_bit_length_1 _) (AutoIntG2.int_bit_length_int_0 x _) (h.int G)
end
end Mine
open PySem PySem.Calls PyProof.Rows PySem.W
set_option Elab.async false
namespace Mine
section
variable {S : Sys} {sc : Scope} {ns : List Str} {base : Heap} {env : Env} {s s' : Shared} {ρ : Ro} {rt : Nat → Addr} {b : Bool} {d : Nat} {q : Md} {p p1 p2 : PV} {mg mb : Str → Option Value}

theorem Post.list {vs : List Value} {ps : List PV} {Q : Value → Shared → Prop} (G : Gd S s.heap) (r : Rps S s.heap vs ps []) (h : Post S b s (.list ps) Q) (tk : Nat := s.toks) :
    Q (.ref s.heap.objs.size) { s with heap := s.heap.push { cls := .type "list", data := .seq vs.toArray }, toks := tk } := by
  obtain ⟨k, r2⟩ := newListPost (b := b) G r
  exact h _ _ _ (k.toks tk) r2 fun z hz => by
    rcases List.mem_cons.mp hz with rfl | hz
    · exact fresh_size _
    · cases hz

theorem Rps.allAtoms {h : Heap} : ∀ {vs : List Value} {ps : List PV} {fp : List Addr}, Rps S h vs ps fp → ps.all (·.atom) = true → fp = []
  | _, _, _, .nil, _ => rfl
  | _, _, _, .cons a r, e => by
    rw [List.all_cons, Bool.and_eq_true] at e
    rw [a.atomNil e.1, Rps.allAtoms r e.2]; rfl

theorem o_ladd {ps qs : List PV} (h1 : ps.all (·.atom) = true) (h2 : qs.all (·.atom) = true) (hsz : ps.length + qs.length ≤ sizeLine) : Op2 S b d (binaryOp .Add) (.list ps) (.list qs) (.list (ps ++ qs)) := by
  intro A s v1 v2 f1 f2 Q R G r1 r2 h
  cases r1 with
  | @list l vs _ g1 _ l2 l3 =>
  cases r2 with
  | @list l' ws _ g2 _ m2 m3 =>
  have e1 := l3.allAtoms h1
  have e2 := m3.allAtoms h2
  subst e1; subst e2
  obtain ⟨⟨cls, dd, data, sl⟩, ho, hc, n, hd⟩ := l2.isList
  obtain ⟨⟨cls2, dd2, data2, sl2⟩, ho2, hc2, n2, hd2⟩ := m2.isList
  simp only at hc hd hc2 hd2
  subst hc hd hc2 hd2
  refine concat_meets ⟨_, ho, rfl⟩ ⟨_, ho2, rfl⟩ noFill_list_add seq_list_add PySem.F.slot_list_add PySem.F.entry_list_add (PySem.F.args_list_add_2 _ _) (list_addW l l' vs.toArray ws.toArray n n2 dd dd2 sl sl2 (by simpa [l3.length, m3.length] using hsz)) ⟨ho, ho2, ?_⟩
  have e : vs.toArray ++ ws.toArray = (vs ++ ws).toArray := by simp
  rw [e]
  exact h.list G (l3.append m3)

theorem o_inStrs {x : Str} {ys : List Str} : Op2 S b d (compareOp .In) (.str x) (.strs ys) (.bool (ys.any (· == x))) := by
  intro A s v1 v2 f1 f2 Q R G r1 r2 h
  (first | obtain ⟨_, rfl, rfl⟩ := r1.inv | cases r1)
  obtain ⟨a, vs, rfl, rfl, _, hl, hi⟩ := r2.strs
  exact in_list_strs hl hi (h.kpBool (Kp.refl G))
theorem o_notInStrs {x : Str} {ys : List Str} : Op2 S b d (compareOp .NotIn) (.str x) (.strs ys) (.bool (!ys.any (· == x))) := by
  intro A s v1 v2 f1 f2 Q R G r1 r2 h
  (first | obtain ⟨_, rfl, rfl⟩ := r1.inv | cases r1)
  obtain ⟨a, vs, rfl, rfl, _, hl, hi⟩ := r2.strs
  exact notin_list_strs hl hi (h.kpBool (Kp.refl G))
theorem o_inInts {x : Int} {ys : List Int} : Op2 S b d (compareOp .In) (.int x) (.ints ys) (.bool (ys.any (· == x))) := by
  intro A s v1 v2 f1 f2 Q R G r1 r2 h
  (first | obtain ⟨_, rfl, rfl⟩ := r1.inv | cases r1)
  obtain ⟨a, vs, rfl, rfl, _, hl, hi⟩ := r2.ints
  exact in_list_ints hl hi (h.kpBool (Kp.refl G))

theorem o_leq {xs ys : List Int} : Op2 S b d (compareOp .Eq) (.ints xs) (.ints ys) (.bool (decide (xs = ys))) := by
  intro A s v1 v2 f1 f2 Q R G r1 r2 h
  obtain ⟨a, vs, rfl, rfl, _, hl, hi⟩ := r1.ints
  obtain ⟨a', vs', rfl, rfl, _, hl', hi'⟩ := r2.ints
  exact eq_intsK hl hi hl' hi' (by have := R.units; (first | lia | omega)) (h.kpBool (Kp.refl G))
theorem o_lne {xs ys : List Int} : Op2 S b d (compareOp .NotEq) (.ints xs) (.ints ys) (.bool (!decide (xs = ys))) := by
  intro A s v1 v2 f1 f2 Q R G r1 r2 h
  obtain ⟨a, vs, rfl, rfl, _, hl, hi⟩ := r1.ints
  obtain ⟨a', vs', rfl, rfl, _, hl', hi'⟩ := r2.ints
  exact ne_intsK hl hi hl' hi' (by have := R.units; (first | lia | omega)) (h.kpBool (Kp.refl G))

theorem readsAll_of_strs {h : Heap} : ∀ {vs : List Value} {xs : List Str}, StrsAre vs xs → ReadsAll h vs (xs.map PyData.str) []
  | _, _, .nil => .nil
  | _, _, .cons k t r => by
    have := ReadsAll.cons (PySem.Reads.str (h := h) k t) (readsAll_of_strs (h := h) r)
    simpa using this
theorem reads_of_strs {h : Heap} {a : Addr} {vs : List Value} {xs : List Str} (hl : h.IsList a vs.toArray) (hi : StrsAre vs xs) : PySem.Reads h (.ref a) (.list (xs.map PyData.str)) [a] := by
  obtain ⟨o, ho, hc, n, hd⟩ := hl
  exact PySem.Reads.list ho hc hd (by simpa using readsAll_of_strs hi)
theorem canLayAll0_strs : ∀ xs : List Str, (∀ x ∈ xs, PyData.strOk x = true) → PyData.canLayAll0 (xs.map PyData.str) = true
  | [], _ => by simp [PyData.canLayAll0]
  | x :: r, h => by
    simp only [List.map_cons, PyData.canLayAll0, PyData.canLay0, Bool.and_eq_true]
    exact ⟨h x (.head _), canLayAll0_strs r fun y hy => h y (.tail _ hy)⟩
theorem depthAll_strs : ∀ xs : List Str, PyData.depthAll (xs.map PyData.str) ≤ 1
  | [] => by simp [PyData.depthAll]
  | n :: r => by
    have := depthAll_strs r
    simp only [List.map_cons, PyData.depthAll, PyData.depth]
    (first | lia | omega)
theorem shaped_strs (xs : List Str) (h : ∀ x ∈ xs, PyData.strOk x = true) : SeqAt.shaped (.list (xs.map PyData.str)) = true := by
  have h1 := depthAll_strs xs
  have h2 : PyData.depth (.list (xs.map PyData.str)) ≤ 64 := by simp only [PyData.depth]; (first | lia | omega)
  show (PyData.canLay0 (.list (xs.map PyData.str)) && decide (PyData.depth (.list (xs.map PyData.str)) ≤ 64)) = true
  rw [Bool.and_eq_true]
  exact ⟨by simp only [PyData.canLay0]; exact canLayAll0_strs xs h, decide_eq_true h2⟩
theorem noMix_strs : ∀ xs ys : List Str, SeqAt.noMixAll (xs.map PyData.str) (ys.map PyData.str) = true
  | [], [] => by simp [SeqAt.noMixAll]
  | [], _ :: _ => by simp [SeqAt.noMixAll]
  | _ :: _, [] => by simp [SeqAt.noMixAll]
  | _ :: r, _ :: q => by simp [SeqAt.noMixAll, SeqAt.noMix, noMix_strs r q]

theorem o_strsNil {xs : List Str} (hx : ∀ x ∈ xs, PyData.strOk x = true) : Op2 S b d (compareOp .Eq) (.strs xs) (.list []) (.bool (decide (xs = []))) := by
  intro A s v1 v2 f1 f2 Q R G r1 r2 h
  obtain ⟨a, vs, rfl, rfl, _, hl, hi⟩ := r1.strs
  obtain ⟨a', vs', rfl, rfl, _, hl', hi'⟩ := (show Rp S s.heap v2 (.strs []) f2 from r2).strs
  refine eq_dataH_same (reads_of_strs hl hi) (reads_of_strs hl' hi') (shaped_strs _ hx) (shaped_strs [] fun _ h => by cases h) (by have := R.units; (first | lia | omega)) (by simp only [SeqAt.noMix]; exact noMix_strs _ _) ?_
  have e : PySem.Spec.same (.list (xs.map PyData.str)) (.list (([] : List Str).map PyData.str)) = decide (xs = []) := by
    cases xs <;> simp [PySem.Spec.same, PySem.Spec.sameAll]
  rw [e]
  exact h.kpBool (Kp.refl G)

end
end Mine
open PySem PySem.Calls PyProof.Rows PySem.W
set_option Elab.async false
set_option autoImplicit false
namespace Mine
section
variable {S : Sys} {sc : Scope} {ns : List Str} {base : Heap} {env : Env} {s s' : Shared} {ρ : Ro} {rt : Nat → Addr} {b : Bool} {d : Nat} {q : Md} {p p1 p2 : PV} {mg mb : Str → Option Value}

theorem MdOk.sub {f1 f2 : List Addr} (h : MdOk q s env ρ rt f1) (k : ∀ x ∈ f2, x ∈ f1) : MdOk q s env ρ rt f2 := by
  cases q with
  | R => trivial
  | N => exact fun x hx => h x (k x hx)
  | C => exact fun x hx => h x (k x hx)
  | F => exact fun x hx => h x (k x hx)

theorem Rp.kp {v : Value} {fp : List Addr} (r : Rp S s.heap v p fp) (k : Kp S b s s') : Rp S s'.heap v p fp := r.mono fun x hx o e => k.keep x o (r.lives x hx).1 e

theorem Ev.idxA {o i : Expr} {pos : Pos} {ps : List PV} {k : Int} {q0 q1 : Md} (h0 : Ev S sc ns b d q0 ρ o (.list ps)) (hi : Ev S sc ns b d q1 ρ i (.int k))
    (hk : 0 ≤ k) (hfit : k < 2 ^ 63) (hx : ps[k.toNat]? = some p) (ha : p.atom = true) (hs : ∀ o' i', subscripted i false o' i' = operate [o', i'] (getItem o' i') := by intro _ _; rfl) :
    Ev S sc ns b d q ρ (.Subscript o i pos) p := by
  intro A base env s rt Q R F hQ
  refine Subscript_ (h0 A base env s rt _ R F fun v0 s1 f0 k1 r0 m0 => ?_)
  refine hi A base env s1 rt _ R (F.kp k1) fun v1 s2 f1 k2 r1 _ => ?_
  have r0' := r0.kp k2
  (first | obtain ⟨_, rfl, rfl⟩ := r1.inv | cases r1)
  cases r0' with
  | list g1 g2 g3 =>
    obtain ⟨v, f, e, r, hf⟩ := g3.get hx
    refine tail_any g2.isList.typeIs slot_list_getitem.lookup (wpAny_getItem_list g2.isList hk hfit (by simpa using e) ?_) (hs _ _)
    have := r.atomNil ha
    subst this
    exact hQ v s2 [] (k1.trans k2) r MdOk.nil

/-! dicts -/
/-! tests -/
theorem Tr.int {e : Expr} {i : Int} {q1 : Md} (h : Ev S sc ns b d q1 ρ e (.int i)) (he : ∀ env t, isTrue e env t = (do let v ← t; standAt e.pos; holding [v] (truthy v)) := by intro _ _; rfl) : Tr S sc ns b d ρ e (i != 0) := by
  intro A base env s rt Q R F hQ
  refine wpAny_isTrue_value (h A base env s rt _ R F fun v s1 f k r _ => ?_) (he env _)
  (first | obtain ⟨_, rfl, rfl⟩ := r.inv | cases r)
  exact PyProof.Rows.truthy_int (hQ s1 k)
theorem Tr.not {e : Expr} {pos : Pos} {t : Bool} (h : Tr S sc ns b d ρ e t) : Tr S sc ns b d ρ (.UnaryOp .Not e pos) (!t) := by
  intro A base env s rt Q R F hQ
  exact wpAny_isTrue_Not (h A base env s rt _ R F fun s1 k => hQ s1 k)
theorem Tr.or2 {e1 e2 : Expr} {pos : Pos} {t1 t2 : Bool} (h1 : Tr S sc ns b d ρ e1 t1) (h2 : t1 = false → Tr S sc ns b d ρ e2 t2) : Tr S sc ns b d ρ (.BoolOp .Or [e1, e2] pos) (t1 || t2) := by
  intro A base env s rt Q R F hQ
  refine wpAny_isTrue_BoolOp (wpAny_allTrue_Or_cons (h1 A base env s rt _ R F fun s1 k1 => ?_))
  cases t1 with
  | true => exact hQ s1 k1
  | false =>
    refine wpAny_allTrue_Or_cons (h2 rfl A base env s1 rt _ R (F.kp k1) fun s2 k2 => ?_)
    cases t2 with
    | true => exact hQ s2 (k1.trans k2)
    | false => exact wpAny_allTrue_Or_nil (hQ s2 (k1.trans k2))
theorem Ev.ite {t e1 e2 : Expr} {pos : Pos} {c : Bool} (h : Tr S sc ns b d ρ t c) (h1 : c = true → Ev S sc ns b d q ρ e1 p) (h2 : c = false → Ev S sc ns b d q ρ e2 p) : Ev S sc ns b d q ρ (.IfExp t e1 e2 pos) p := by
  intro A base env s rt Q R F hQ
  refine wpAny_IfExp (h A base env s rt _ R F fun s1 k1 => ?_)
  cases c with
  | true => exact h1 rfl A base env s1 rt _ R (F.kp k1) fun v s2 fp k2 r m => hQ v s2 fp (k1.trans k2) r (m.back k1)
  | false => exact h2 rfl A base env s1 rt _ R (F.kp k1) fun v s2 fp k2 r m => hQ v s2 fp (k1.trans k2) r (m.back k1)
end
end Mine
open PySem PySem.Calls PyProof.Rows PySem.W
set_option Elab.async false
set_option autoImplicit false
namespace Mine
section
variable {S : Sys} {sc : Scope} {ns : List Str} {base : Heap} {env : Env} {s s' s0 : Shared} {ρ : Ro} {rt : Nat → Addr} {b : Bool} {d : Nat} {q : Md} {p p1 p2 : PV} {mg mb : Str → Option Value}

theorem ns_unique {h : Heap} {a : Addr} {m m' : Str → Option Value} (n : h.Ns a m) (n' : h.Ns a m') (x : Str) : m x = m' x := by
  obtain ⟨o, es, ep, e, e2, _, e3⟩ := n
  obtain ⟨o', es', ep', e', e2', _, e3'⟩ := n'
  rw [e] at e'; cases e'; rw [e2] at e2'; cases e2'
  rw [← e3 x, ← e3' x]

theorem isCellOf.ne {h : Heap} (F : Fm S sc ns base env h ρ rt) {c : Addr} (hc : isCellOf env c) : c ≠ env.locals := by
  rintro rfl
  obtain ⟨_, v, o, e, e2⟩ := F.cellB _ hc
  obtain ⟨m, o', es, ep, e', e3, _⟩ := F.ns1
  rw [e] at e'; cases e'; rw [e2] at e3; cases e3

theorem nodup_ne {i j : Nat} {x y : Str} (nd : ns.Nodup) (hi : ns[i]? = some x) (hj : ns[j]? = some y) (hne : j ≠ i) : y ≠ x := by
  rintro rfl
  obtain ⟨h1, e1⟩ := List.getElem?_eq_some_iff.mp hi
  obtain ⟨h2, e2⟩ := List.getElem?_eq_some_iff.mp hj
  exact hne ((List.getElem_inj nd).mp (e2.trans e1.symm))

structure Storable (S : Sys) (base : Heap) (env : Env) (s0 s : Shared) (ρ : Ro) (rt rt' : Nat → Addr) (i : Nat) (p : PV) (k : Own) (v : Value) (fp : List Addr) : Prop where
  rp : Rp S s.heap v p fp
  hrt : ∀ j, j ≠ i → rt' j = rt j
  loc : ∀ x ∈ fp, x ≠ env.locals ∧ ¬ isCellOf env x
  sep : ∀ j q k', ρ[j]? = some (some (q, k')) → k' ≠ .imm → j ≠ i → rt j ∉ fp
  own : k ≠ .imm → v = .ref (rt' i) ∧ (∀ x ∈ fp, s0.heap.get? x = none) ∧ (∃ ob, s.heap.get? (rt' i) = some ob ∧ ob.dict = none ∧ ∀ vs, ob.data ≠ .fields vs) ∧ ∃ fp', fp = rt' i :: fp' ∧ rt' i ∉ fp'

theorem getElem?_set_ne' {α : Type} {l : List α} {i j : Nat} {a : α} (h : j ≠ i) : (l.set i a)[j]? = l[j]? := List.getElem?_set_ne (Ne.symm h)

theorem Gd.sameBut {h h' : Heap} {a : Addr} (G : Gd S h) (hs : Heap.SameBut a h h') (ht : S.hT.get? a = none) (hd : ∀ o, h.get? a = some o → ∀ vs, o.data ≠ .fields vs) (ha : ∃ o, h.get? a = some o) : Gd S h' := by
  have ne : ∀ {x o vs}, h.get? x = some o → o.data = .fields vs → x ≠ a := fun e1 e2 e3 => hd _ (e3 ▸ e1) _ e2
  refine ⟨fun x o hx e => ?_, fun t ht' => ?_⟩
  · by_cases hxa : x = a
    · subst hxa; rw [ht] at e; cases e
    · exact (hs.2 x hxa).trans (G.top x o hx e)
  · obtain ⟨ps, e, r⟩ := G.tab t ht'
    refine ⟨ps, (hs.2 _ (ne e rfl)).trans e, r.imp id fun ⟨c', e1, c, o, vs, t', e2, e3, e4, e5⟩ => ⟨c', e1, c, o, vs, t', e2, (hs.2 _ (ne e3 e4)).trans e3, e4, e5⟩⟩

theorem Fm.topNone {h : Heap} (F : Fm S sc ns base env h ρ rt) {a : Addr} (e : base.get? a = none) : S.hT.get? a = none := by
  cases q : S.hT.get? a with
  | none => rfl
  | some o => obtain ⟨o', e'⟩ := F.top a o q; rw [e] at e'; cases e'

theorem Fm.turn {h h' : Heap} {a : Addr} (F : Fm S sc ns base env h ρ rt) (ha : a = env.locals ∨ isCellOf env a) (hs : Heap.SameBut a h h') (hsh : ∃ o', h'.get? a = some o') :
    Gd S h' ∧ (∀ x o, base.get? x = some o → ∃ o', h'.get? x = some o') := by
  have hb : base.get? a = none := ha.elim (fun e => e ▸ F.nsB) fun e => (F.cellB a e).1
  refine ⟨F.gd.sameBut hs (F.topNone hb) (fun o e vs hd => ?_) ?_, fun x o e => ?_⟩
  · rcases ha with rfl | hc
    · obtain ⟨m, o', es, ep, e', e3, _⟩ := F.ns1
      rw [e] at e'; cases e'; rw [hd] at e3; cases e3
    · obtain ⟨_, v, o', e', e3⟩ := F.cellB a hc
      rw [e] at e'; cases e'; rw [hd] at e3; cases e3
  · rcases ha with rfl | hc
    · obtain ⟨m, o', es, ep, e', _⟩ := F.ns1; exact ⟨o', e'⟩
    · obtain ⟨_, v, o', e', _⟩ := F.cellB a hc; exact ⟨o', e'⟩
  · obtain ⟨o', e'⟩ := F.alive x o e
    have hx : x ≠ a := fun e' => by rw [e', hb] at e; cases e
    exact ⟨o', (hs.2 x hx).trans e'⟩

theorem Fm.stored {k : Own} {i : Nat} {x : Str} {v : Value} {fp : List Addr} {rt' : Nat → Addr} {h' : Heap} {a : Addr} (F0 : Fm S sc ns base env s0.heap ρ rt) (k0 : Kp S b s0 s) (nd : ns.Nodup) (hn : ns[i]? = some x)
    (st : Storable S base env s0 s ρ rt rt' i p k v fp)
    (ha : a = env.locals ∨ isCellOf env a) (hs : Heap.SameBut a s.heap h')
    (hx : Reads env h' x v) (hns : ∃ m, h'.Ns env.locals m) (hcl : ∀ c, isCellOf env c → ∃ v, h'.IsCell c v)
    (hoth : ∀ y w, y ≠ x → Reads env s.heap y w → Reads env h' y w) (tk : Nat) :
    NextIs S sc ns b base env ρ rt s0 { s with heap := h', toks := tk } (ρ.set i (some (p, k))) := by
  have F := F0.kp k0
  have hal : ∃ o', h'.get? a = some o' := by
    rcases ha with rfl | hc
    · obtain ⟨m, o', es, ep, e', _⟩ := hns; exact ⟨o', e'⟩
    · obtain ⟨v, o', e', _⟩ := hcl a hc; exact ⟨o', e'⟩
  obtain ⟨g, al⟩ := F.turn ha hs hal
  have hown : ownOf env ρ rt a := ha.elim .inl fun e => .inr (.inl e)
  have fpa : ∀ y ∈ fp, y ≠ a := fun y hy e => by
    subst e
    rcases ha with e | hc
    · exact (st.loc _ hy).1 e
    · exact (st.loc _ hy).2 hc
  have rootA : ∀ j q k', ρ[j]? = some (some (q, k')) → k' ≠ .imm → rt j ≠ a := fun j q k' e hk e2 => by
    obtain ⟨y, ey⟩ := F.name e
    obtain ⟨v, fp, V⟩ := F.vars j y q k' ey e
    obtain ⟨_, _, _, fp', e3, _⟩ := V.own hk
    have := V.loc (rt j) (by rw [e3]; exact .head _)
    rcases ha with e | hc
    · exact this.1 (e2.trans e)
    · exact this.2 (e2 ▸ hc)
  obtain ⟨hh, tk0, es, ek, _⟩ := id k0
  refine ⟨⟨⟨h', tk, by rw [es]⟩, fun y o hy hb e => ?_, fun y o e => ?_⟩, rt', fun j q k' e hk => ?_, ?_⟩
  · have hya : y ≠ a := fun e => hy (e ▸ hown)
    refine (hs.2 y hya).trans ?_
    rw [es]
    exact ek y o id hb e
  · by_cases hya : y = a
    · subst hya; exact hal
    · obtain ⟨o', e'⟩ := TabOk.alive k0.gd k0.keep y o e
      exact ⟨o', (hs.2 y hya).trans e'⟩
  · by_cases hji : j = i
    · subst hji
      rw [List.getElem?_set_self' ] at e
      cases hρ : ρ[j]? with
      | none => rw [hρ] at e; cases e
      | some z =>
        rw [hρ] at e
        cases e
        obtain ⟨_, o2, _, fp', e3, _⟩ := st.own hk
        exact .inr (o2 _ (by rw [e3]; exact .head _))
    · rw [getElem?_set_ne' hji] at e
      exact .inl ⟨st.hrt j hji, q, e⟩
  · refine ⟨g, F.kind, F.kinds, F.glob, F.blt, F.top, al, F.nsB, hns, fun c hc => ⟨(F.cellB c hc).1, hcl c hc⟩, F.cellInj, F.cellsAll, by rw [List.length_set]; exact F.len, fun j y pj kj ey e => ?_⟩
    by_cases hji : j = i
    · subst hji
      rw [hn] at ey; cases ey
      rw [List.getElem?_set_self'] at e
      cases hρ : ρ[j]? with
      | none => rw [hρ] at e; cases e
      | some z =>
      rw [hρ] at e
      cases e
      refine ⟨v, fp, hx, st.rp.mono fun z hz o e => (hs.2 z (fpa z hz)).trans e, st.loc, fun hk => ?_, fun j' q' k' e' hk' hne => ?_⟩
      · obtain ⟨o1, o2, ⟨ob, o3, o4⟩, fp', o5, o6⟩ := st.own hk
        refine ⟨o1, fun z hz => ?_, ⟨ob, (hs.2 _ (fpa _ (by rw [o5]; exact .head _))).trans o3, o4⟩, fp', o5, o6⟩
        cases hb : base.get? z with
        | none => rfl
        | some o => obtain ⟨o', e'⟩ := F0.alive z o hb; rw [o2 z hz] at e'; cases e'
      · rw [getElem?_set_ne' hne] at e'
        rw [st.hrt j' hne]
        exact st.sep j' q' k' e' hk' hne
    · rw [getElem?_set_ne' hji] at e
      obtain ⟨w, fpj, V0⟩ := F0.vars j y pj kj ey e
      have rpj := V0.rp.kp k0
      have fpja : ∀ z ∈ fpj, z ≠ a := fun z hz e => by
        subst e
        rcases ha with e | hc
        · exact (V0.loc _ hz).1 e
        · exact (V0.loc _ hz).2 hc
      refine ⟨w, fpj, hoth y w (nodup_ne nd hn ey hji) (V0.rd.grow F0.gd k0.keep), rpj.mono fun z hz o e => (hs.2 z (fpja z hz)).trans e, V0.loc, fun hk => ?_, fun j' q' k' e' hk' hne => ?_⟩
      · obtain ⟨o1, o2, ⟨ob, o3, o4⟩, fp', o5, o6⟩ := V0.own hk
        rw [st.hrt j hji]
        have hl := V0.rp.lives (rt j) (by rw [o5]; exact .head _)
        exact ⟨o1, o2, ⟨ob, (hs.2 _ (rootA j pj kj e hk)).trans (k0.keep _ _ hl.1 o3), o4⟩, fp', o5, o6⟩
      · by_cases hj' : j' = i
        · subst hj'
          rw [List.getElem?_set_self'] at e'
          cases hρ : ρ[j']? with
          | none => rw [hρ] at e'; cases e'
          | some z =>
          rw [hρ] at e'
          cases e'
          obtain ⟨_, o2, _, fp', e3, _⟩ := st.own hk'
          intro hm
          obtain ⟨_, o, e4⟩ := V0.rp.lives _ hm
          rw [o2 _ (by rw [e3]; exact .head _)] at e4; cases e4
        · rw [getElem?_set_ne' hj'] at e'
          rw [st.hrt j' hj']
          exact V0.sep j' q' k' e' hk' hne

theorem store_ok {A : Around} {k : Own} {i : Nat} {x : Str} {v : Value} {fp : List Addr} {rt' : Nat → Addr} {Q : Unit → Shared → Prop} (F0 : Fm S sc ns base env s0.heap ρ rt) (k0 : Kp S b s0 s) (nd : ns.Nodup) (hn : ns[i]? = some x)
    (hk : sc.names.lookup x = some .local ∨ sc.names.lookup x = some .cell)
    (st : Storable S base env s0 s ρ rt rt' i p k v fp)
    (h : ∀ s', NextIs S sc ns b base env ρ rt s0 s' (ρ.set i (some (p, k))) → Q () s') : wpAny (model S.prog S.w) A (storeName env x v) Q No s := by
  have F := F0.kp k0
  have kd : ∀ {kk}, kk ≠ NameKind.free → sc.names.lookup x = some kk → env.kindOf x = some kk := fun hne e => by
    rcases F.kinds x with h | ⟨h, _⟩
    · rw [h, e]
    · rw [e] at h; exact absurd (Option.some.inj h) hne
  rcases hk with hk | hk
  · have kx := kd (by intro h; cases h) hk
    obtain ⟨m, n⟩ := F.ns1
    refine wpAny_storeName_local kx n (fun h' n' hs => h _ ?_) (by rw [F.kind]; rfl)
    refine F0.stored k0 nd hn st (.inl rfl) hs (.inl ⟨kx, _, n', by simp⟩) ⟨_, n'⟩ (fun c hc => ?_) (fun y w hy r => ?_) _
    · obtain ⟨_, v, o, e, e2⟩ := F.cellB c hc
      exact ⟨v, o, (hs.2 c (isCellOf.ne F hc)).trans e, e2⟩
    · rcases r with ⟨r1, m', r2, r3⟩ | ⟨r1, c, r2, o, r3, r4⟩
      · refine .inl ⟨r1, _, n', ?_⟩
        have : m' y = m y := ns_unique r2 n y
        simp [hy, ← this, r3]
      · exact .inr ⟨r1, c, r2, o, (hs.2 c (isCellOf.ne F ⟨y, r2⟩)).trans r3, r4⟩
  · have kx := kd (by intro h; cases h) hk
    have hc := F.cellsAll x hk
    cases hcx : env.cells.lookup x with
    | none => rw [hcx] at hc; cases hc
    | some c =>
    have hco : isCellOf env c := ⟨x, hcx⟩
    obtain ⟨_, v0, n0⟩ := F.cellB c hco
    refine wpAny_storeName_cell F.kind kx hcx n0 fun h' n' hs => ?_
    have := F0.stored k0 nd hn st (.inr hco) hs (.inr ⟨.inl kx, c, hcx, n'⟩) ?_ (fun c' hc' => ?_) (fun y w hy r => ?_) s.toks
    · exact h _ this
    · obtain ⟨m, n⟩ := F.ns1
      exact ⟨m, n.sameBut hs (Ne.symm (isCellOf.ne F hco))⟩
    · by_cases hcc : c' = c
      · exact ⟨_, hcc ▸ n'⟩
      · obtain ⟨_, v, o, e, e2⟩ := F.cellB c' hc'
        exact ⟨v, o, (hs.2 c' hcc).trans e, e2⟩
    · rcases r with ⟨r1, m', r2, r3⟩ | ⟨r1, c', r2, o, r3, r4⟩
      · exact .inl ⟨r1, m', r2.sameBut hs (Ne.symm (isCellOf.ne F hco)), r3⟩
      · have : c' ≠ c := fun e => hy (F.cellInj y x c (e ▸ r2) hcx)
        exact .inr ⟨r1, c', r2, o, (hs.2 c' this).trans r3, r4⟩
end
end Mine
open PySem PySem.Calls PyProof.Rows PySem.W
set_option Elab.async false
set_option autoImplicit false
set_option linter.unusedVariables false
namespace Mine
section
variable {S : Sys} {sc : Scope} {ns : List Str} {base : Heap} {env : Env} {s s' s0 : Shared} {ρ : Ro} {rt : Nat → Addr} {b : Bool} {d : Nat} {q : Md} {p p1 p2 : PV} {mg mb : Str → Option Value}

theorem ownOf.back {h : Heap} {ρ1 : Ro} {rt1 : Nat → Addr} (ro : RootOk ρ rt h ρ1 rt1) {y : Addr} {o : Obj} (e : h.get? y = some o) (hy : ownOf env ρ1 rt1 y) : ownOf env ρ rt y := by
  rcases hy with hy | hy | ⟨i, p, e1, e2⟩
  · exact .inl hy
  · exact .inr (.inl hy)
  · rcases ro i p .mut e1 (by intro h; cases h) with ⟨h1, p', h2⟩ | h1
    · exact .inr (.inr ⟨i, p', h2, h1.symm.trans e2⟩)
    · rw [e2, e] at h1; cases h1

theorem Stp.trans {ρ1 : Ro} {rt1 : Nat → Addr} {s1 s2 : Shared} (x : Stp S b env ρ rt s s1) (ro : RootOk ρ rt s.heap ρ1 rt1) (y : Stp S b env ρ1 rt1 s1 s2) : Stp S b env ρ rt s s2 where
  same := by
    obtain ⟨h, tk, rfl⟩ := x.same
    obtain ⟨h', tk', rfl⟩ := y.same
    exact ⟨h', tk', rfl⟩
  keep := fun z o hz hb e => y.keep z o (fun h => hz (ownOf.back ro e h)) hb (x.keep z o hz hb e)
  alive := fun z o e => let ⟨o', e'⟩ := x.alive z o e; y.alive z o' e'

theorem RootOk.trans {ρ1 ρ2 : Ro} {rt1 rt2 : Nat → Addr} {s1 : Shared} (x : Stp S b env ρ rt s s1) (ro : RootOk ρ rt s.heap ρ1 rt1) (r2 : RootOk ρ1 rt1 s1.heap ρ2 rt2) : RootOk ρ rt s.heap ρ2 rt2 := fun i p k e hk => by
  rcases r2 i p k e hk with ⟨h1, p', h2⟩ | h1
  · rcases ro i p' k h2 hk with ⟨h3, p'', h4⟩ | h3
    · exact .inl ⟨h1.trans h3, p'', h4⟩
    · exact .inr (by rw [h1]; exact h3)
  · refine .inr ?_
    cases q : s.heap.get? (rt2 i) with
    | none => rfl
    | some o => obtain ⟨o', e'⟩ := x.alive _ o q; rw [h1] at e'; cases e'

theorem NextIs.trans {ρ1 ρ2 : Ro} {rt1 : Nat → Addr} {s1 s2 : Shared} (x : Stp S b env ρ rt s s1) (ro : RootOk ρ rt s.heap ρ1 rt1) (n : NextIs S sc ns b base env ρ1 rt1 s1 s2 ρ2) : NextIs S sc ns b base env ρ rt s s2 ρ2 := by
  obtain ⟨y, rt2, r2, F⟩ := n
  exact ⟨x.trans ro y, rt2, ro.trans x r2, F⟩

theorem OutIs.trans {ρ1 : Ro} {rt1 : Nat → Addr} {s1 s2 : Shared} {f : Flow} {o : Out} (x : Stp S b env ρ rt s s1) (ro : RootOk ρ rt s.heap ρ1 rt1) (n : OutIs S sc ns b base env ρ1 rt1 s1 f s2 o) : OutIs S sc ns b base env ρ rt s f s2 o := by
  cases o with
  | next ρ2 => exact ⟨n.1, NextIs.trans x ro n.2⟩
  | brk ρ2 => exact ⟨n.1, NextIs.trans x ro n.2⟩
  | cont ρ2 => exact ⟨n.1, NextIs.trans x ro n.2⟩
  | ret p => obtain ⟨v, fp, h1, h2, h3⟩ := n; exact ⟨v, fp, h1, x.trans ro h2, h3⟩

theorem Stp.ofKp (k : Kp S b s s') : Stp S b env ρ rt s s' where
  same := let ⟨h, tk, e, _⟩ := k; ⟨h, tk, e⟩
  keep := by
    obtain ⟨h, tk, rfl, kk, _⟩ := k
    exact fun z o _ hb e => kk z o id hb e
  alive := TabOk.alive k.gd k.keep
theorem RootOk.refl {h : Heap} : RootOk ρ rt h ρ rt := fun i p k e _ => .inl ⟨rfl, p, e⟩
theorem NextIs.ofKp (F : Fm S sc ns base env s.heap ρ rt) (k : Kp S b s s') : NextIs S sc ns b base env ρ rt s s' ρ := ⟨.ofKp k, rt, .refl, F.kp k⟩

theorem Sx.nil {Φ : Out → Prop} (h : Φ (.next ρ)) : Sx S sc ns b d ρ [] Φ := by
  intro A base env s rt Q R F hQ
  exact wpAny_execs_nil (hQ (.next ρ) .next s h ⟨rfl, NextIs.ofKp F (Kp.refl F.gd)⟩)

noncomputable def contOf (S : Sys) (sc : Scope) (ns : List Str) (b : Bool) (d : Nat) (rest : List Stmt) (Φ : Out → Prop) : Out → Prop
  | .next ρ' => Sx S sc ns b d ρ' rest Φ
  | .brk ρ' => Φ (.brk ρ')
  | .cont ρ' => Φ (.cont ρ')
  | .ret p => Φ (.ret p)

theorem Sx.cons {st : Stmt} {rest : List Stmt} {Φ : Out → Prop} (h : S1 S sc ns b d ρ st (contOf S sc ns b d rest Φ)) : Sx S sc ns b d ρ (st :: rest) Φ := by
  intro A base env s rt Q R F hQ
  refine wpAny_execs_cons (h A base env s rt _ R F fun o f s1 ho oi => ?_)
  cases o with
  | next ρ1 =>
    obtain ⟨rfl, x, rt1, ro, F1⟩ := oi
    exact ho A base env s1 rt1 Q R F1 fun o f s2 h2 oi2 => hQ o f s2 h2 (OutIs.trans x ro oi2)
  | brk ρ1 => obtain ⟨rfl, n⟩ := oi; exact hQ (.brk ρ1) .brk s1 ho ⟨rfl, n⟩
  | cont ρ1 => obtain ⟨rfl, n⟩ := oi; exact hQ (.cont ρ1) .cont s1 ho ⟨rfl, n⟩
  | ret p => obtain ⟨v, fp, rfl, n⟩ := oi; exact hQ (.ret p) (.ret v) s1 ho ⟨v, fp, rfl, n⟩

noncomputable def Le (ρ' ρ : Ro) : Prop := ρ'.length = ρ.length ∧ ∀ (i : Nat) (x : PV × Own), ρ'[i]? = some (some x) → ρ[i]? = some (some x)
theorem Fm.forget {h : Heap} {ρ' : Ro} (F : Fm S sc ns base env h ρ rt) (l : Le ρ' ρ) : Fm S sc ns base env h ρ' rt where
  gd := F.gd
  kind := F.kind
  kinds := F.kinds
  glob := F.glob
  blt := F.blt
  top := F.top
  alive := F.alive
  nsB := F.nsB
  ns1 := F.ns1
  cellB := F.cellB
  cellInj := F.cellInj
  cellsAll := F.cellsAll
  len := by rw [l.1]; exact F.len
  vars := fun i x p k e1 e2 => by
    obtain ⟨v, fp, V⟩ := F.vars i x p k e1 (l.2 i _ e2)
    exact ⟨v, fp, V.rd, V.rp, V.loc, V.own, fun j q k' e hk hne => V.sep j q k' (l.2 j _ e) hk hne⟩
theorem RootOk.forget {h : Heap} {ρ' : Ro} (l : Le ρ' ρ) : RootOk ρ rt h ρ' rt := fun i p k e _ => .inl ⟨rfl, p, l.2 i _ e⟩
theorem Le.refl : Le ρ ρ := ⟨rfl, fun _ _ e => e⟩
noncomputable def locCell (sc : Scope) (x : Str) : Bool := match sc.names.lookup x with | some .local => true | some .cell => true | _ => false
theorem locCell_or {x : Str} (h : locCell sc x = true) : sc.names.lookup x = some .local ∨ sc.names.lookup x = some .cell := by
  unfold locCell at h
  split at h <;> first | exact .inl (by assumption) | exact .inr (by assumption) | cases h

theorem Fm.kindOf' {h : Heap} {x : Str} (F : Fm S sc ns base env h ρ rt) : ∀ k, sc.names.lookup x = some k → k ≠ .free → env.kindOf x = some k := fun k e hne => by
  rcases F.kinds x with h | ⟨h, _⟩
  · rw [h, e]
  · rw [e] at h; exact absurd (Option.some.inj h) hne

theorem S1.assign {x : Str} {pos' pos : Pos} {value : Expr} {Φ : Out → Prop} (i : Nat) (hn : ns[i]? = some x) (h : Ev S sc ns b d .C ρ value p) (hΦ : Φ (.next (ρ.set i (some (p, .imm)))))
    (nd : ns.Nodup) (hk : locCell sc x = true) (hs : ∀ env : Env, (∀ k, sc.names.lookup x = some k → k ≠ .free → env.kindOf x = some k) → swapsWith value (some (.Name x pos')) pos.line env = pure false := by intro _ _; rfl) :
    S1 S sc ns b d ρ (.Assign [.Name x pos'] value pos) Φ := by
  intro A base env s rt Q R F hQ
  refine wpAny_Assign_Name (h A base env s rt _ R F fun v s1 fp k r m => ?_) (hs env F.kindOf')
  refine store_ok F k nd hn (locCell_or hk) (rt' := rt) (k := .imm) ⟨r, fun _ _ => rfl, fun y hy => ⟨(m y hy).1, (m y hy).2.1⟩, fun j q k' e hk' _ hm => (m _ hm).2.2 j q k' e hk' rfl, fun hh => absurd rfl hh⟩ fun s' n => ?_
  exact hQ _ .next s' hΦ ⟨rfl, n⟩

noncomputable def PV.flat : PV → Bool
  | .list ps => ps.all fun p => match p with | .tup qs => qs.all (·.atom) | p => p.atom
  | .dict _ ps => ps.all fun p => match p with | .list qs => qs.all (·.atom) | _ => false
  | _ => false

theorem Rps.tupItems {h : Heap} : ∀ {vs : List Value} {ps : List PV} {fp : List Addr}, Rps S h vs ps fp → (ps.all fun p => match p with | .tup qs => qs.all (·.atom) | p => p.atom) = true → ∀ x ∈ fp, ∃ its, h.IsTuple x its
  | _, _, _, .nil, _, x, hx => by cases hx
  | _, _, _, .cons (p := p) a r, e, x, hx => by
    rw [List.all_cons, Bool.and_eq_true] at e
    rcases List.mem_append.mp hx with hx | hx
    · cases a with
      | int => cases hx
      | bool => cases hx
      | none => cases hx
      | str => cases hx
      | list => cases e.1
      | dict => cases e.1
      | tup h1 h2 h3 =>
        rw [h3.allAtoms e.1] at hx
        rcases List.mem_cons.mp hx with rfl | hx
        · exact ⟨_, h2⟩
        · cases hx
    · exact Rps.tupItems r e.2 x hx
theorem Rps.listItems {h : Heap} : ∀ {vs : List Value} {ps : List PV} {fp : List Addr}, Rps S h vs ps fp → (ps.all fun p => match p with | .list qs => qs.all (·.atom) | _ => false) = true → ∀ x ∈ fp, ∃ its, h.PlainList x its
  | _, _, _, .nil, _, x, hx => by cases hx
  | _, _, _, .cons (p := p) a r, e, x, hx => by
    rw [List.all_cons, Bool.and_eq_true] at e
    rcases List.mem_append.mp hx with hx | hx
    · cases a with
      | int => cases e.1
      | bool => cases e.1
      | none => cases e.1
      | str => cases e.1
      | tup => cases e.1
      | dict => cases e.1
      | list h1 h2 h3 =>
        rw [h3.allAtoms e.1] at hx
        rcases List.mem_cons.mp hx with rfl | hx
        · exact ⟨_, h2⟩
        · cases hx
    · exact Rps.listItems r e.2 x hx

theorem Rp.flatRoot {h : Heap} {v : Value} {fp : List Addr} (r : Rp S h v p fp) (hf : p.flat = true) : ∃ a fp', v = .ref a ∧ fp = a :: fp' ∧ a ∉ fp' ∧ ∃ ob, h.get? a = some ob ∧ ob.dict = Option.none ∧ ∀ vs, ob.data ≠ .fields vs := by
  cases r with
  | int => cases hf
  | bool => cases hf
  | none => cases hf
  | str => cases hf
  | tup => cases hf
  | list h1 h2 h3 =>
    obtain ⟨n, e⟩ := h2
    refine ⟨_, _, rfl, rfl, fun hm => ?_, _, e, rfl, fun vs h => by cases h⟩
    obtain ⟨its, o, e', e2, _⟩ := h3.tupItems hf _ hm
    rw [e] at e'; cases e'; exact absurd (show Value.type "list" = Value.type "tuple" from e2) (by decide)
  | dict h1 h2 h3 h4 h5 =>
    obtain ⟨o, es, ep, e, ex, e2, _⟩ := h4
    refine ⟨_, _, rfl, rfl, fun hm => ?_, o, e, ex.2.1, fun vs h => by rw [h] at e2; cases e2⟩
    obtain ⟨its, n, e'⟩ := h5.listItems hf _ hm
    rw [e] at e'; cases e'; cases e2

theorem S1.assignOwn {x : Str} {pos' pos : Pos} {value : Expr} {Φ : Out → Prop} (i : Nat) (hn : ns[i]? = some x) (h : Ev S sc ns b d .F ρ value p) (hf : p.flat = true) (hΦ : Φ (.next (ρ.set i (some (p, .mut)))))
    (nd : ns.Nodup) (hk : locCell sc x = true) (hs : ∀ env : Env, (∀ k, sc.names.lookup x = some k → k ≠ .free → env.kindOf x = some k) → swapsWith value (some (.Name x pos')) pos.line env = pure false := by intro _ _; rfl) :
    S1 S sc ns b d ρ (.Assign [.Name x pos'] value pos) Φ := by
  intro A base env s rt Q R F hQ
  refine wpAny_Assign_Name (h A base env s rt _ R F fun v s1 fp k r m => ?_) (hs env F.kindOf')
  obtain ⟨a, fp', rfl, e1, e2, e3⟩ := r.flatRoot hf
  have c := Clean.fresh F m
  refine store_ok F k nd hn (locCell_or hk) (rt' := fun j => if j = i then a else rt j) (k := .mut) ⟨r, fun j hj => by simp [hj], fun y hy => ⟨(c y hy).1, (c y hy).2.1⟩, fun j q k' e hk' _ hm => (c _ hm).2.2 j q k' e hk' rfl, fun _ => ?_⟩ fun s' n => ?_
  · show Value.ref a = Value.ref (if i = i then a else rt i) ∧ _ ∧ (∃ ob, s1.heap.get? (if i = i then a else rt i) = _ ∧ _) ∧ _
    rw [if_pos rfl]
    exact ⟨rfl, m, e3, fp', e1, e2⟩
  · exact hQ _ .next s' hΦ ⟨rfl, n⟩

theorem S1.if {t : Expr} {b1 b2 : List Stmt} {pos : Pos} {c : Bool} {Φ : Out → Prop} (h : Tr S sc ns b d ρ t c) (h1 : c = true → Sx S sc ns b d ρ b1 Φ) (h2 : c = false → Sx S sc ns b d ρ b2 Φ) : S1 S sc ns b d ρ (.If t b1 b2 pos) Φ := by
  intro A base env s rt Q R F hQ
  refine wpAny_If (h A base env s rt _ R F fun s1 k => ?_)
  have fin : ∀ {st}, Sx S sc ns b d ρ st Φ → wpAny (model S.prog S.w) A (execs st env) Q No s1 := fun hx =>
    hx A base env s1 rt Q R (F.kp k) fun o f s' ho oi => hQ o f s' ho (OutIs.trans (.ofKp k) .refl oi)
  cases c with
  | true => exact fin (h1 rfl)
  | false => exact fin (h2 rfl)

theorem S1.ret {e : Expr} {pos : Pos} {Φ : Out → Prop} (h : Ev S sc ns b d .F ρ e p) (hΦ : Φ (.ret p)) : S1 S sc ns b d ρ (.Return (some e) pos) Φ := by
  intro A base env s rt Q R F hQ
  refine wpAny_Return_some (h A base env s rt _ R F fun v s1 fp k r m => ?_)
  refine hQ _ (.ret v) s1 hΦ ⟨v, fp, rfl, .ofKp k, k.gd, r, fun x hx => ?_⟩
  cases hb : base.get? x with
  | none => rfl
  | some o => obtain ⟨o', e'⟩ := F.alive x o hb; rw [m x hx] at e'; cases e'
theorem S1.retOwn {x : Str} {pos' pos : Pos} {Φ : Out → Prop} {k : Own} (i : Nat) (hn : ns[i]? = some x) (hρ : ρ[i]? = some (some (p, k))) (hk : k ≠ .imm) (hΦ : Φ (.ret p)) (hd : (x == ("__debug__" : Str)) = false := by decide) : S1 S sc ns b d ρ (.Return (some (.Name x pos')) pos) Φ := by
  intro A base env s rt Q R F hQ
  refine wpAny_Return_some ?_
  obtain ⟨v, fp, V⟩ := F.vars i x p k hn hρ
  have fin : Q (.ret v) s := hQ _ (.ret v) s hΦ ⟨v, fp, rfl, .ofKp (Kp.refl F.gd), F.gd, V.rp, (V.own hk).2.1⟩
  rcases V.rd with ⟨a, m, n, e⟩ | ⟨a, c, e, n⟩
  · exact wpAny_Name (wpAny_loadName_local F.kind a n e fin) hd
  · exact wpAny_Name (loadCF F.kind a e n fin) hd

theorem S1.break {pos : Pos} {Φ : Out → Prop} (hΦ : Φ (.brk ρ)) : S1 S sc ns b d ρ (.Break pos) Φ := by
  intro A base env s rt Q R F hQ
  exact wpAny_Break (hQ _ .brk s hΦ ⟨rfl, NextIs.ofKp F (Kp.refl F.gd)⟩)

theorem S1.aug {x : Str} {pos' pos : Pos} {op : Operator} {value : Expr} {Φ : Out → Prop} {q1 : Md} {k : Own} (i : Nat) (hn : ns[i]? = some x) (hρ : ρ[i]? = some (some (p1, k))) (h : Ev S sc ns b d q1 ρ value p2) (o : Op2 S b d (inplaceOp op) p1 p2 p)
    (hΦ : Φ (.next (ρ.set i (some (p, .imm))))) (nd : ns.Nodup) (hk : locCell sc x = true) : S1 S sc ns b d ρ (.AugAssign (.Name x pos') op value pos) Φ := by
  intro A base env s rt Q R F hQ
  obtain ⟨v, fp, V⟩ := F.vars i x p1 k hn hρ
  refine wpAny_AugAssign_Name ?_
  have fin : wpAny (model S.prog S.w) A (eval value env) (fun v' s₂ => wpAny (model S.prog S.w) A (inplaceOp op v v') (fun r s₃ => wpAny (model S.prog S.w) A (storeName env x r) (fun _ => Q .next) No s₃) No s₂) No s := by
    refine h A base env s rt _ R F fun v2 s2 f2 k2 r2 _ => ?_
    refine o A s2 v v2 fp f2 _ R k2.gd (V.rp.kp k2) r2 fun v3 s3 f3 k3 r3 m3 => ?_
    have k13 := k2.trans k3
    have c := Clean.fresh F fun x hx => k2.dead (m3 x hx)
    refine store_ok F k13 nd hn (locCell_or hk) (rt' := rt) (k := .imm) ⟨r3, fun _ _ => rfl, fun y hy => ⟨(c y hy).1, (c y hy).2.1⟩, fun j q k' e hk' _ hm => (c _ hm).2.2 j q k' e hk' rfl, fun hh => absurd rfl hh⟩ fun s' n => ?_
    exact hQ _ .next s' hΦ ⟨rfl, n⟩
  rcases V.rd with ⟨a, m, n, e⟩ | ⟨a, c, e, n⟩
  · exact wpAny_loadName_local F.kind a n e fin
  · exact loadCF F.kind a e n fin

theorem i_xor {x y : Int} : Op2 S b d (inplaceOp .BitXor) (.int x) (.int y) (.int (Builtin.bitXor x y)) := by
  intro A s v1 v2 f1 f2 Q R G r1 r2 h; (first | obtain ⟨_, rfl, rfl⟩ := r1.inv | cases r1); (first | obtain ⟨_, rfl, rfl⟩ := r2.inv | cases r2); exact PyProof.Rows.ixor_int (h.int G)
theorem i_add {x y : Int} : Op2 S b d (inplaceOp .Add) (.int x) (.int y) (.int (x + y)) := by
  intro A s v1 v2 f1 f2 Q R G r1 r2 h; (first | obtain ⟨_, rfl, rfl⟩ := r1.inv | cases r1); (first | obtain ⟨_, rfl, rfl⟩ := r2.inv | cases r2); exact PyProof.Rows.iadd_int (h.int G)
end
end Mine
open PySem PySem.Calls PyProof.Rows PySem.W
set_option Elab.async false
set_option autoImplicit false
set_option linter.unusedVariables false
namespace Mine
section
variable {S : Sys} {sc : Scope} {ns : List Str} {base : Heap} {env : Env} {s s' s0 : Shared} {ρ : Ro} {rt : Nat → Addr} {b : Bool} {d : Nat} {q : Md} {p p1 p2 p' : PV} {mg mb : Str → Option Value}

theorem Fm.mutated {i : Nat} {x : Str} {v : Value} {fp0 fp2 : List Addr} {h' : Heap} (F0 : Fm S sc ns base env s0.heap ρ rt) (k0 : Kp S b s0 s) (hn : ns[i]? = some x) (hρ : ρ[i]? = some (some (p, .mut)))
    (V0 : Var S base env s0.heap ρ rt i x p .mut v fp0) (hs : Heap.SameBut (rt i) s.heap h') (r : Rp S h' (.ref (rt i)) p' (rt i :: fp2)) (hnr : rt i ∉ fp2)
    (hf : ∀ y ∈ fp2, y ∈ fp0 ∨ s0.heap.get? y = none) (hpl : ∃ ob, h'.get? (rt i) = some ob ∧ ob.dict = none ∧ ∀ vs, ob.data ≠ .fields vs) (tk : Nat) :
    NextIs S sc ns b base env ρ rt s0 { s with heap := h', toks := tk } (ρ.set i (some (p', .mut))) := by
  have F := F0.kp k0
  obtain ⟨v1, v2, ⟨ob0, v3, v4, v5⟩, fp0', v6, v7⟩ := V0.own (by intro h; cases h)
  have aR : rt i ∈ fp0 := by rw [v6]; exact .head _
  have lv := V0.rp.lives (rt i) aR
  have aL := V0.loc (rt i) aR
  have v3' : s.heap.get? (rt i) = some ob0 := k0.keep _ _ lv.1 v3
  have hb : base.get? (rt i) = none := v2 _ aR
  have g : Gd S h' := F.gd.sameBut hs (F.topNone hb) (fun o e vs hd => by rw [v3'] at e; cases e; exact v5 _ hd) ⟨_, v3'⟩
  obtain ⟨obn, pn1, pn2, pn3⟩ := hpl
  have li : i < ρ.length := (List.getElem?_eq_some_iff.mp hρ).1
  have getI : (ρ.set i (some (p', Own.mut)))[i]? = some (some (p', Own.mut)) := by rw [List.getElem?_set_self li]
  obtain ⟨hh, tk0, es, ek, _⟩ := id k0
  refine ⟨⟨⟨h', tk, by rw [es]⟩, fun y o hy hb e => ?_, fun y o e => ?_⟩, rt, fun j q k' e hk => ?_, ?_⟩
  · have hya : y ≠ rt i := fun e => hy (.inr (.inr ⟨i, p, hρ, e.symm⟩))
    refine (hs.2 y hya).trans ?_
    rw [es]
    exact ek y o id hb e
  · by_cases hya : y = rt i
    · subst hya; exact ⟨_, pn1⟩
    · obtain ⟨o', e'⟩ := TabOk.alive k0.gd k0.keep y o e
      exact ⟨o', (hs.2 y hya).trans e'⟩
  · by_cases hji : j = i
    · subst hji; rw [getI] at e; cases e; exact .inl ⟨rfl, p, hρ⟩
    · rw [getElem?_set_ne' hji] at e; exact .inl ⟨rfl, q, e⟩
  · refine ⟨g, F.kind, F.kinds, F.glob, F.blt, F.top, fun y o e => ?_, F.nsB, ?_, fun c hc => ?_, F.cellInj, F.cellsAll, by rw [List.length_set]; exact F.len, fun j y pj kj ey e => ?_⟩
    · obtain ⟨o', e'⟩ := F.alive y o e
      have : y ≠ rt i := fun e' => by rw [e', hb] at e; cases e
      exact ⟨o', (hs.2 y this).trans e'⟩
    · obtain ⟨m, n⟩ := F.ns1; exact ⟨m, n.sameBut hs (Ne.symm aL.1)⟩
    · obtain ⟨c1, v, o, e, e2⟩ := F.cellB c hc
      exact ⟨c1, v, o, (hs.2 c fun e => aL.2 (e ▸ hc)).trans e, e2⟩
    · have rdOk : ∀ {y w}, Reads env s0.heap y w → Reads env h' y w := fun rd => by
        rcases rd.grow F0.gd k0.keep with ⟨r1, m', r2, r3⟩ | ⟨r1, c, r2, o, r3, r4⟩
        · exact .inl ⟨r1, m', r2.sameBut hs (Ne.symm aL.1), r3⟩
        · exact .inr ⟨r1, c, r2, o, (hs.2 c fun e => aL.2 (e ▸ ⟨_, r2⟩)).trans r3, r4⟩
      by_cases hji : j = i
      · subst hji
        rw [hn] at ey; cases ey
        rw [getI] at e; cases e
        refine ⟨.ref (rt j), rt j :: fp2, rdOk (v1 ▸ V0.rd), r, fun z hz => ?_, fun _ => ⟨rfl, fun z hz => ?_, ⟨obn, pn1, pn2, pn3⟩, fp2, rfl, hnr⟩, fun j' q' k' e' hk' hne => ?_⟩
        · rcases List.mem_cons.mp hz with rfl | hz
          · exact aL
          · rcases hf z hz with hz | hz
            · exact V0.loc z hz
            · have c := Clean.fresh F0 (fp := [z]) (fun y hy => by cases hy with | head => exact hz | tail _ h => cases h) z (.head _)
              exact ⟨c.1, c.2.1⟩
        · rcases List.mem_cons.mp hz with rfl | hz
          · exact hb
          · rcases hf z hz with hz | hz
            · exact v2 z hz
            · cases hq : base.get? z with
              | none => rfl
              | some o => obtain ⟨o', e'⟩ := F0.alive z o hq; rw [hz] at e'; cases e'
        · rw [getElem?_set_ne' hne] at e'
          intro hm
          rcases List.mem_cons.mp hm with hm | hm
          · exact V0.sep j' q' k' e' hk' hne (hm ▸ aR)
          · rcases hf _ hm with hz | hz
            · exact V0.sep j' q' k' e' hk' hne hz
            · obtain ⟨y', ey'⟩ := F0.name e'
              obtain ⟨_, _, V'⟩ := F0.vars j' y' q' k' ey' e'
              obtain ⟨_, _, ⟨ob, e'', _⟩, _⟩ := V'.own hk'
              rw [hz] at e''; cases e''
      · rw [getElem?_set_ne' hji] at e
        obtain ⟨w, fpj, Vj⟩ := F0.vars j y pj kj ey e
        have na : rt i ∉ fpj := Vj.sep i p .mut hρ (by intro h; cases h) (Ne.symm hji)
        have ne : ∀ z ∈ fpj, z ≠ rt i := fun z hz e => na (e ▸ hz)
        refine ⟨w, fpj, rdOk Vj.rd, (Vj.rp.kp k0).mono fun z hz o e => (hs.2 z (ne z hz)).trans e, Vj.loc, fun hk => ?_, fun j' q' k' e' hk' hne => ?_⟩
        · obtain ⟨o1, o2, ⟨ob, o3, o4⟩, fp', o5, o6⟩ := Vj.own hk
          have hl := Vj.rp.lives (rt j) (by rw [o5]; exact .head _)
          exact ⟨o1, o2, ⟨ob, (hs.2 _ (ne _ (by rw [o5]; exact .head _))).trans (k0.keep _ _ hl.1 o3), o4⟩, fp', o5, o6⟩
        · by_cases hj' : j' = i
          · subst hj'; exact na
          · rw [getElem?_set_ne' hj'] at e'
            exact Vj.sep j' q' k' e' hk' hne

theorem Var.name {A : Around} {i : Nat} {x : Str} {k : Own} {v : Value} {fp : List Addr} {pos : Pos} {Q : Value → Shared → Prop} (F : Fm S sc ns base env s.heap ρ rt) (V : Var S base env s.heap ρ rt i x p k v fp) (hd : (x == ("__debug__" : Str)) = false) (h : Q v s) :
    wpAny (model S.prog S.w) A (eval (.Name x pos) env) Q No s := by
  rcases V.rd with ⟨a, m, n, e⟩ | ⟨a, c, e, n⟩
  · exact wpAny_Name (wpAny_loadName_local F.kind a n e h) hd
  · exact wpAny_Name (loadCF F.kind a e n h) hd

theorem notInteractive (F : Fm S sc ns base env s.heap ρ rt) : interactive env = false := by
  unfold interactive
  rw [F.kind]; rfl

theorem mem_flatL {h : Heap} {vs : List Value} {ps : List PV} {fp : List Addr} {a : Addr} (hl : ∃ n, h.get? a = some { cls := .type "list", data := .seq vs.toArray n }) (r : Rps S h vs ps fp) (hf : (PV.list ps).flat = true) : a ∉ fp := fun hm => by
  obtain ⟨its, o, e', e2, _⟩ := r.tupItems hf _ hm
  obtain ⟨n, e⟩ := hl
  rw [e] at e'; cases e'; exact absurd (show Value.type "list" = Value.type "tuple" from e2) (by decide)

theorem S1.append {x : Str} {xp ap cp pos : Pos} {e : Expr} {ps : List PV} {Φ : Out → Prop} (i : Nat) (hn : ns[i]? = some x) (hρ : ρ[i]? = some (some (.list ps, .mut))) (h : Ev S sc ns b d .F ρ e p)
    (hfl : (PV.list (ps ++ [p])).flat = true) (hsz : ps.length ≤ sizeLine) (hΦ : Φ (.next (ρ.set i (some (.list (ps ++ [p]), .mut))))) (hd : (x == ("__debug__" : Str)) = false := by decide)
    (hline : (ap.endLine == cp.line) = true := by rfl) (he : ∀ env, starEach [e] env = [(false, eval e env)] := by intro _; rfl)
    (hs : ∀ env, swapsWith (.Call (.Attribute (.Name x xp) "append" ap) [e] [] cp) none pos.line env = pure false := by intro _; rfl) :
    S1 S sc ns b d ρ (.Expr (.Call (.Attribute (.Name x xp) "append" ap) [e] [] cp) pos) Φ := by
  intro A base env s rt Q R F hQ
  obtain ⟨v, fp, V⟩ := F.vars i x _ _ hn hρ
  obtain ⟨v1, v2, _, fp0', v6, v7⟩ := V.own (by intro h; cases h)
  subst v1
  have ht : backTo cp (starEach [e] env) = [(false, eval e env)] := by rw [he env]; rfl
  refine wpAny_Expr_any ?_ (notInteractive F) (hs env)
  refine wpAny_Call_append rfl (by rw [ht]; rfl) hline ht (Var.name F V hd ?_)
  have rp := V.rp
  cases rp with
  | @list _ vs _ fpl g1 g2 g3 =>
  obtain ⟨n0, e0⟩ := id g2
  refine ⟨rt i, vs.toArray, rfl, ⟨_, n0, e0, rfl, rfl, rfl⟩, h A base env s rt _ R F fun v1 s1 f1 k1 r1 m1 => ?_⟩
  have g2' : s1.heap.PlainList (rt i) vs.toArray := g2.at fun o e => k1.keep _ o g1 e
  refine wpAny_list_append_plain g2' (fun h' hp hs => ?_) (by rw [List.size_toArray, g3.length]; exact hsz)
  have hpl : h'.PlainList (rt i) (vs ++ [v1]).toArray := by
    have : (vs ++ [v1]).toArray = vs.toArray.push v1 := by simp
    rw [this]; exact hp
  have old : Rps S s1.heap vs ps fpl := g3.mono fun y hy o e => k1.keep y o (g3.lives y hy).1 e
  have new : Rps S s1.heap (vs ++ [v1]) (ps ++ [p]) (fpl ++ f1) := by
    have := old.append (.cons r1 .nil)
    simpa using this
  have neA : ∀ y ∈ fpl ++ f1, y ≠ rt i := fun y hy e => by
    subst e
    rcases List.mem_append.mp hy with hy | hy
    · exact v7 ((List.cons.inj v6).2 ▸ hy)
    · have := m1 _ hy; rw [e0] at this; cases this
  have new' : Rps S h' (vs ++ [v1]) (ps ++ [p]) (fpl ++ f1) := new.mono fun y hy o e => (hs.2 y (neA y hy)).trans e
  obtain ⟨n', e'⟩ := id hpl
  have := F.mutated k1 hn hρ V hs (.list g1 hpl new') (mem_flatL hpl new' hfl) (fun y hy => (List.mem_append.mp hy).imp (fun h => by exact .tail _ h) (m1 y)) ⟨_, e', rfl, fun _ h => by cases h⟩ s1.toks
  exact hQ _ .next _ hΦ ⟨rfl, this⟩

theorem Rps.setAtom {h : Heap} {v : Value} : ∀ {vs : List Value} {ps : List PV} {fp : List Addr}, Rps S h vs ps fp → fp = [] → Rp S h v p [] → ∀ k : Nat, Rps S h (vs.set k v) (ps.set k p) []
  | _, _, _, .nil, _, _, _ => .nil
  | _, _, _, .cons a r, e, rv, 0 => by
    obtain ⟨e1, e2⟩ := List.append_eq_nil_iff.mp e
    subst e1; subst e2
    exact .cons (f1 := []) rv r
  | _, _, _, .cons a r, e, rv, k + 1 => by
    obtain ⟨e1, e2⟩ := List.append_eq_nil_iff.mp e
    subst e1; subst e2
    exact .cons (f1 := []) a (Rps.setAtom r rfl rv k)

theorem flat_atoms {ps : List PV} (h : ps.all (·.atom) = true) : (PV.list ps).flat = true := by
  unfold PV.flat
  rw [List.all_eq_true] at h ⊢
  intro x hx
  have := h x hx
  cases x <;> first | exact this | cases this

theorem setItem_own {A : Around} {i : Nat} {x : Str} {ps : List PV} {k : Int} {t : Tok} {v w : Value} {fp : List Addr} {Q : Unit → Shared → Prop} (F0 : Fm S sc ns base env s0.heap ρ rt) (k0 : Kp S b s0 s) (hn : ns[i]? = some x) (hρ : ρ[i]? = some (some (.list ps, .mut)))
    (V0 : Var S base env s0.heap ρ rt i x (.list ps) .mut w fp) (r : Rp S s.heap v p []) (ha : ps.all (·.atom) = true) (hk : 0 ≤ k) (hk2 : k < ps.length) (hfit : k < 2 ^ 63)
    (h : ∀ s', NextIs S sc ns b base env ρ rt s0 s' (ρ.set i (some (.list (ps.set k.toNat p), .mut))) → Q () s') : wpAny (model S.prog S.w) A (setItem (.ref (rt i)) (.int k t) v) Q No s := by
  obtain ⟨v1, v2, _, fp0', v6, v7⟩ := V0.own (by intro h; cases h)
  subst v1
  have rp := V0.rp
  cases rp with
  | @list _ vs _ fpl g1 g2 g3 =>
  have e0 := g3.allAtoms ha
  subst e0
  obtain ⟨n, e⟩ := g2.at (h' := s.heap) fun o e => k0.keep _ o g1 e
  have hlen : vs.length = ps.length := g3.length
  refine ki_setAt e hk hfit (by rw [List.size_toArray]; (first | lia | omega)) ?_
  have hs : Heap.SameBut (rt i) s.heap (s.heap.update (rt i) (Obj.mapSeq (·.setIfInBounds k.toNat v))) := Heap.SameBut.update ..
  have eo : Obj.mapSeq (·.setIfInBounds k.toNat v) { cls := .type "list", data := .seq vs.toArray n } = { cls := .type "list", data := .seq (vs.set k.toNat v).toArray n } := by
    have : vs.toArray.setIfInBounds k.toNat v = (vs.set k.toNat v).toArray := by apply Array.toList_inj.mp; simp
    simp [Obj.mapSeq, this]
  have eg : (s.heap.update (rt i) (Obj.mapSeq (·.setIfInBounds k.toNat v))).get? (rt i) = some { cls := .type "list", data := .seq (vs.set k.toNat v).toArray n } := by
    rw [Heap.get?_update_self _ e (by rw [eo]; rfl), eo]
  have new : Rps S (s.heap.update (rt i) (Obj.mapSeq (·.setIfInBounds k.toNat v))) (vs.set k.toNat v) (ps.set k.toNat p) [] :=
    ((g3.setAtom rfl (r.mono fun y hy => by cases hy) k.toNat) : Rps S s0.heap _ _ []).mono fun y hy => by cases hy
  exact h _ (F0.mutated k0 hn hρ V0 hs (.list g1 ⟨n, eg⟩ new) (by intro h; cases h) (fun y hy => by cases hy) ⟨_, eg, rfl, fun _ h => by cases h⟩ s.toks)

theorem S1.augItem {x : Str} {xp sp pos : Pos} {op : Operator} {ie value : Expr} {ps : List PV} {k : Int} {Φ : Out → Prop} {q1 q2 : Md} (i : Nat) (hn : ns[i]? = some x) (hρ : ρ[i]? = some (some (.list ps, .mut)))
    (hi : Ev S sc ns b d q2 ρ ie (.int k)) (hx : ps[k.toNat]? = some p1) (hv : Ev S sc ns b d q1 ρ value p2) (o : Op2 S b d (inplaceOp op) p1 p2 p) (hp : p.atom = true) (ha : ps.all (·.atom) = true) (hk : 0 ≤ k) (hfit : k < 2 ^ 63)
    (hΦ : Φ (.next (ρ.set i (some (.list (ps.set k.toNat p), .mut))))) (hd : (x == ("__debug__" : Str)) = false := by decide)
    (hg : ∀ ov iv new, augStore ie ov iv new = (do holding [new, ov, iv] (setItem ov iv new); release [new, ov, iv] []; pure .next) := by intros; rfl) :
    S1 S sc ns b d ρ (.AugAssign (.Subscript (.Name x xp) ie sp) op value pos) Φ := by
  intro A base env s rt Q R F hQ
  obtain ⟨w0, fp0, V0⟩ := F.vars i x _ _ hn hρ
  refine wpAny_AugAssign_SubscriptAny (Var.name F V0 hd ?_) hg
  have v1 := (V0.own (by intro h; cases h)).1
  subst v1
  refine hi A base env s rt _ R F fun v2 s2 f2 k2 r2 _ => ?_
  (first | obtain ⟨_, rfl, rfl⟩ := r2.inv | cases r2)
  have rp := V0.rp.kp k2
  cases rp with
  | @list _ vs _ fpl g1 g2 g3 =>
  obtain ⟨v, f, e, r, hf⟩ := g3.get hx
  refine wpAny_getItem_list g2.isList hk hfit (by simpa using e) ?_
  refine hv A base env s2 rt _ R (F.kp k2) fun v3 s3 f3 k3 r3 _ => ?_
  refine o A s3 v v3 f f3 _ R k3.gd (r.kp k3) r3 fun v4 s4 f4 k4 r4 _ => ?_
  have e4 := r4.atomNil hp
  subst e4
  have hk2 : k < ps.length := by
    have := (List.getElem?_eq_some_iff.mp hx).1
    (first | lia | omega)
  exact setItem_own F ((k2.trans k3).trans k4) hn hρ V0 r4 ha hk hk2 hfit fun s' n => hQ _ .next s' hΦ ⟨rfl, n⟩
end
end Mine
open PySem PySem.Calls PyProof.Rows PySem.W
set_option Elab.async false
set_option autoImplicit false
set_option linter.unusedVariables false
namespace Mine
section
variable {S : Sys} {sc : Scope} {ns : List Str} {base : Heap} {env : Env} {s s' s0 : Shared} {ρ : Ro} {rt : Nat → Addr} {b : Bool} {d : Nat} {q : Md} {p p1 p2 p' : PV} {mg mb : Str → Option Value}

noncomputable def Itr (h : Heap) (I : Addr) : Prop := ∃ o vs, h.get? I = some o ∧ o.cls ≠ .none ∧ o.data = .fields vs ∧ ∀ x t, vs[1]? ≠ some (.str x t)

structure Iter (S : Sys) (b : Bool) (A : Around) (env : Env) (ρ : Ro) (rt : Nat → Addr) (s : Shared) (items : List PV) (s2 : Shared) (I : Addr) (fp : List Addr) (P : Nat → Value → Prop) (St : Nat → Heap → Prop) : Prop where
  kp : Kp S b s s2
  fresh : s.heap.get? I = none
  W : Walks S.prog S.w A I fp [I] items.length P St
  st : St 0 s2.heap
  fpOk : ∀ x ∈ fp, x ∉ S.TB ∧ ¬ ownOf env ρ rt x ∧ ∃ o, s2.heap.get? x = some o
  itr : ∀ j h, St j h → Itr h I
  item : ∀ j v, P j v → ∃ p f, items[j]? = some p ∧ Rp S s2.heap v p f ∧ Clean env ρ rt f

noncomputable def It (S : Sys) (sc : Scope) (ns : List Str) (b : Bool) (d : Nat) (ρ : Ro) (e : Expr) (items : List PV) : Prop :=
  ∀ (A : Around) (base : Heap) (env : Env) (s : Shared) (rt : Nat → Addr) (Q : Value → Shared → Prop), Room d A → Fm S sc ns base env s.heap ρ rt →
    (∀ s2 I fp P St, Iter S b A env ρ rt s items s2 I fp P St → Q (.ref I) s2) → wpAny (model S.prog S.w) A (eval e env) (fun x s₁ => wpAny (model S.prog S.w) A (pyIter x) Q No s₁) No s

theorem Clean.nil : Clean env ρ rt [] := fun _ h => by cases h
theorem It.list {e : Expr} {ps : List PV} (h : Ev S sc ns b d .N ρ e (.list ps)) (ha : ps.all (·.atom) = true) : It S sc ns b d ρ e ps := by
  intro A base env s rt Q R F hQ
  refine h A base env s rt _ R F fun v s1 fp k r m => ?_
  cases r with
  | @list a vs _ fpl g1 g2 g3 =>
  have e0 := g3.allAtoms ha
  subst e0
  refine wpAny_pyIter_list g2.isList ?_
  have keep := Heap.push_keeps (h := s1.heap) { cls := .type "list_iterator", data := .fields #[.ref a, .int 0 0] }
  obtain ⟨n, e⟩ := id g2
  have hne : a ≠ s1.heap.objs.size := fresh_ne e
  have W := Walks.list (prog := S.prog) (w := S.w) R.hd s1.heap.objs.size a hne vs.toArray
  have hsz : vs.toArray.size = ps.length := by rw [List.size_toArray, g3.length]
  rw [hsz] at W
  refine hQ _ s1.heap.objs.size [s1.heap.objs.size, a] _ _ ⟨k.trans (Kp.of_keeps (tk := s1.toks) k.gd keep), k.dead (fresh_size _), W, ?_, fun x hx => ?_, fun j h st => ?_, fun j v hv => ?_⟩
  · exact ⟨⟨_, Heap.get?_push_size _ rfl, rfl, rfl⟩, g2.isList.at fun o e => keep _ o e⟩
  · rcases List.mem_cons.mp hx with rfl | hx
    · refine ⟨size_notTB k.gd, fun ho => ?_, _, Heap.get?_push_size _ rfl⟩
      exact MdOk.ofF F (fp := [s1.heap.objs.size]) (fun y hy => by cases hy with | head => exact k.dead (fresh_size _) | tail _ h => cases h) .N _ (.head _) ho
    · rcases List.mem_cons.mp hx with rfl | hx
      · exact ⟨g1, m _ (.head _), _, keep _ _ e⟩
      · cases hx
  · obtain ⟨⟨o, e1, e2, e3⟩, _⟩ := st
    exact ⟨o, _, e1, (by rw [e2]; intro h; cases h), e3, fun x t h => by simp at h⟩
  · obtain ⟨p, f, e1, e2, e3⟩ := g3.get' (i := j) (v := v) (by simpa using hv)
    have : f = [] := List.eq_nil_iff_forall_not_mem.mpr fun x hx => by cases e3 x hx
    subst this
    exact ⟨p, [], e1, e2.mono fun x hx => (by cases hx), Clean.nil⟩

theorem range_items {lo : Int} {n j : Nat} (h : j < n) : (((List.range n).map fun (i : Nat) => PV.int (lo + i)))[j]? = some (PV.int (lo + j)) := by
  rw [List.getElem?_map, List.getElem?_range h]; rfl

theorem iter_range {A : Around} {lo hi : Int} {r : Addr} {t u v : Tok} {Q : Value → Shared → Prop} {s1 : Shared} (R : Room d A) (F : Fm S sc ns base env s.heap ρ rt) (k : Kp S b s s1) (hr : IsRange s1.heap r lo hi 1 t u v)
    (h1 : -(2 ^ 62) ≤ lo) (h2 : lo < 2 ^ 62) (h3 : -(2 ^ 62) ≤ hi) (h4 : hi < 2 ^ 62)
    (hQ : ∀ s2 I fp P St, Iter S b A env ρ rt s ((List.range (hi - lo).toNat).map fun (i : Nat) => PV.int (lo + i)) s2 I fp P St → Q (.ref I) s2) : wpAny (model S.prog S.w) A (pyIter (.ref r)) Q No s1 := by
  refine wpAny_pyIter_range hr (small_one h1 h2 h3 h4) ?_
  have hsz : Builtin.Range.rangeSize lo hi 1 = ((hi - lo).toNat : Int) := by rw [rangeSize_one]; split <;> (first | lia | omega)
  rw [hsz]
  have keep := Heap.push_keeps (h := s1.heap) { cls := .type "range_iterator", data := .fields #[rawInt lo, rawInt ((hi - lo).toNat : Int), rawInt 1] }
  have W := Walks.range (prog := S.prog) (w := S.w) R.hd s1.heap.objs.size lo 1 (hi - lo).toNat
  refine hQ _ s1.heap.objs.size [s1.heap.objs.size] (fun i v => i < (hi - lo).toNat ∧ ∃ t, v = .int (lo + i * 1) t) (fun i h => IsRangeIter h s1.heap.objs.size (lo + (i : Nat) * 1) (((hi - lo).toNat : Int) - (i : Nat)) 1) ⟨k.trans (Kp.of_keeps (tk := s1.toks) k.gd keep), k.dead (fresh_size _), ?_, ?_, fun x hx => ?_, fun j h st => ?_, fun j v hv => ?_⟩
  · have : ((List.range (hi - lo).toNat).map fun (i : Nat) => PV.int (lo + i)).length = (hi - lo).toNat := by simp
    rw [this]
    exact { sub := W.sub, frame := W.frame, item := fun i s Q E hi st hq => W.item i s Q E hi st fun v h' tk hP => hq v h' tk ⟨hi, hP⟩, done := W.done, self := W.self }
  · show IsRangeIter _ _ _ _ _
    have e1 : (lo + ((0 : Nat) : Int) * 1) = lo := by simp
    have e2 : (((hi - lo).toNat : Int) - ((0 : Nat) : Int)) = ((hi - lo).toNat : Int) := by simp
    rw [e1, e2]
    exact Heap.get?_push_size _ rfl
  · rcases List.mem_cons.mp hx with rfl | hx
    · refine ⟨size_notTB k.gd, fun ho => ?_, _, Heap.get?_push_size _ rfl⟩
      exact MdOk.ofF F (fp := [s1.heap.objs.size]) (fun y hy => by cases hy with | head => exact k.dead (fresh_size _) | tail _ h => cases h) .N _ (.head _) ho
    · cases hx
  · refine ⟨_, _, st, ?_, rfl, fun x t h => ?_⟩
    · intro h; cases h
    · simp [rawInt] at h
  · obtain ⟨hj, t, rfl⟩ := hv
    refine ⟨.int (lo + j), [], range_items hj, ?_, Clean.nil⟩
    rw [Int.mul_one]
    exact .int _ t

theorem It.range1 {e : Expr} {np pos : Pos} {n : Int} {q1 : Md} (g : GName S sc "range" (.type "range")) (h : Ev S sc ns b d q1 ρ e (.int n)) (h1 : -(2 ^ 62) ≤ n) (h2 : n < 2 ^ 62)
    (he : ∀ env, starEach [e] env = [(false, eval e env)] := by intro _; rfl) :
    It S sc ns b d ρ (.Call (.Name "range" np) [e] [] pos) ((List.range n.toNat).map fun (i : Nat) => PV.int i) := by
  intro A base env s rt Q R F hQ
  have ht : backTo pos (starEach [e] env) = [(false, eval e env)] := by rw [he env]; rfl
  refine wpAny_Call_NameR (g.eval F ?_ (by decide))
  refine callWith_ok (.type _) (Evs.cons h Evs.nil (fun env => he env)) R F (he env) (by rw [ht]; rfl) fun vs s1 fp k r => ?_
  obtain ⟨v, rfl, r'⟩ := r.one
  cases r'
  refine call_range_1 ?_
  refine iter_range R F (k.trans (Kp.of_keeps k.gd (Heap.push_keeps _))) (IsRange.new ..) (by decide) (by decide) h1 h2 ?_
  have e : ((List.range (n - 0).toNat).map fun (i : Nat) => PV.int (0 + i)) = (List.range n.toNat).map fun (i : Nat) => PV.int i := by simp
  rw [e]
  exact hQ
end
end Mine
open PySem PySem.Calls PyProof.Rows PySem.W
set_option Elab.async false
set_option autoImplicit false
set_option linter.unusedVariables false
namespace Mine
section
variable {S : Sys} {sc : Scope} {ns : List Str} {base : Heap} {env : Env} {s s' s0 : Shared} {ρ : Ro} {rt : Nat → Addr} {b : Bool} {d : Nat} {q : Md} {p p1 p2 p' : PV} {mg mb : Str → Option Value}

theorem Rp.kinds {h : Heap} {v : Value} {fp : List Addr} (r : Rp S h v p fp) : ∀ x ∈ fp, ∀ o, h.get? x = some o → ∀ vs, o.data ≠ .fields vs := by
  refine Rp.rec (motive_1 := fun v p fp _ => ∀ x ∈ fp, ∀ o, h.get? x = some o → ∀ vs, o.data ≠ .fields vs) (motive_2 := fun vs ps fp _ => ∀ x ∈ fp, ∀ o, h.get? x = some o → ∀ vs, o.data ≠ .fields vs) ?_ ?_ ?_ ?_ ?_ ?_ ?_ ?_ ?_ r
  · intro i t x hx; cases hx
  · intro y x hx; cases hx
  · intro x hx; cases hx
  · intro y t x hx; cases hx
  · intro a vs ps fp h1 h2 _ ih x hx o e ws hd
    rcases List.mem_cons.mp hx with rfl | hx
    · obtain ⟨n, e'⟩ := h2; rw [e] at e'; cases e'; cases hd
    · exact ih x hx o e ws hd
  · intro a vs ps fp h1 h2 _ ih x hx o e ws hd
    rcases List.mem_cons.mp hx with rfl | hx
    · obtain ⟨o', e', _, n, e2⟩ := h2; rw [e] at e'; cases e'; rw [hd] at e2; cases e2
    · exact ih x hx o e ws hd
  · intro a ks vs ps fp h1 _ _ h2 _ ih x hx o e ws hd
    rcases List.mem_cons.mp hx with rfl | hx
    · obtain ⟨o', es, ep, e', _, e2, _⟩ := h2; rw [e] at e'; cases e'; rw [hd] at e2; cases e2
    · exact ih x hx o e ws hd
  · intro x hx; cases hx
  · intro v vs p ps f1 f2 _ _ i1 i2 x hx
    rcases List.mem_append.mp hx with hx | hx
    · exact i1 x hx
    · exact i2 x hx

theorem Fm.iter {h h' : Heap} {I : Addr} (F : Fm S sc ns base env h ρ rt) (it : Itr h I) (hb : base.get? I = none) (k : ∀ x o, x ≠ I → h.get? x = some o → h'.get? x = some o) (hI : ∀ o, base.get? I = some o → ∃ o', h'.get? I = some o') : Fm S sc ns base env h' ρ rt := by
  obtain ⟨oI, vsI, e1, e2, e3, e4⟩ := it
  have ne : ∀ {x o}, h.get? x = some o → (∀ vs, o.data ≠ .fields vs) → x ≠ I := fun e hd he => by
    subst he; rw [e1] at e; cases e; exact hd _ e3
  have k' : ∀ {x o}, h.get? x = some o → (∀ vs, o.data ≠ .fields vs) → h'.get? x = some o := fun e hd => k _ _ (ne e hd) e
  have g : Gd S h' := by
    refine ⟨fun x o hx e => k x o (fun he => ?_) (F.gd.top x o hx e), fun t ht => ?_⟩
    · subst he; obtain ⟨o', e'⟩ := F.top _ o e; rw [hb] at e'; cases e'
    · obtain ⟨ps, e, r⟩ := F.gd.tab t ht
      refine ⟨ps, k _ _ (fun he => ?_) e, r.imp id fun ⟨c', q1, c, o, vs, t', q2, q3, q4, q5⟩ => ⟨c', q1, c, o, vs, t', q2, k _ _ (fun he => ?_) q3, q4, q5⟩⟩
      · subst he; rw [e] at e1; cases e1; exact e2 rfl
      · subst he; rw [q3] at e1; cases e1; rw [q4] at e3; cases e3; exact e4 _ _ q5
  have rdOk : ∀ {y w}, Reads env h y w → Reads env h' y w := fun rd => by
    rcases rd with ⟨r1, m', ⟨o, es, ep, z1, z2, z3⟩, r3⟩ | ⟨r1, c, r2, o, r3, r4⟩
    · exact .inl ⟨r1, m', ⟨o, es, ep, k' z1 (fun vs h => by rw [z2] at h; cases h), z2, z3⟩, r3⟩
    · exact .inr ⟨r1, c, r2, o, k' r3 (fun vs h => by rw [r4] at h; cases h), r4⟩
  refine ⟨g, F.kind, F.kinds, F.glob, F.blt, F.top, fun x o e => ?_, F.nsB, ?_, fun c hc => ?_, F.cellInj, F.cellsAll, F.len, fun i x p kk ex e => ?_⟩
  · obtain ⟨o', e'⟩ := F.alive x o e
    by_cases hx : x = I
    · subst hx; exact hI o e
    · exact ⟨o', k x o' hx e'⟩
  · obtain ⟨m, o, es, ep, z1, z2, z3⟩ := F.ns1
    exact ⟨m, o, es, ep, k' z1 (fun vs h => by rw [z2] at h; cases h), z2, z3⟩
  · obtain ⟨c1, v, o, z1, z2⟩ := F.cellB c hc
    exact ⟨c1, v, o, k' z1 (fun vs h => by rw [z2] at h; cases h), z2⟩
  · obtain ⟨v, fp, V⟩ := F.vars i x p kk ex e
    refine ⟨v, fp, rdOk V.rd, V.rp.mono fun y hy o e => k' e (V.rp.kinds y hy o e), V.loc, fun hk => ?_, V.sep⟩
    obtain ⟨o1, o2, ⟨ob, o3, o4, o5⟩, o6⟩ := V.own hk
    exact ⟨o1, o2, ⟨ob, k' o3 o5, o4, o5⟩, o6⟩

noncomputable def LoopPost (Φ : Out → Prop) (J : Nat → Ro) (j : Nat) : Out → Prop
  | .next ρ' => Le (J j) ρ'
  | .cont ρ' => Le (J j) ρ'
  | .brk ρ' => Φ (.next ρ')
  | .ret p => Φ (.ret p)

noncomputable def ItK (κ : Heap → Addr → Prop) (S : Sys) (sc : Scope) (ns : List Str) (b : Bool) (d : Nat) (ρ : Ro) (e : Expr) (items : List PV) : Prop :=
  ∀ (A : Around) (base : Heap) (env : Env) (s : Shared) (rt : Nat → Addr) (Q : Value → Shared → Prop), Room d A → Fm S sc ns base env s.heap ρ rt →
    (∀ s2 I fp P St, Iter S b A env ρ rt s items s2 I fp P St → (∀ j h, St j h → κ h I) → Q (.ref I) s2) → wpAny (model S.prog S.w) A (eval e env) (fun x s₁ => wpAny (model S.prog S.w) A (pyIter x) Q No s₁) No s

theorem S1.forG {target : Expr} {pos : Pos} {iter : Expr} {body orelse : List Stmt} {items : List PV} {Φ : Out → Prop} {κ : Heap → Addr → Prop} (upd : Ro → PV → Ro) (hit : ItK κ S sc ns b d ρ iter items) (J : Nat → Ro) (h0 : Le (J 0) ρ)
    (asg : ∀ (A : Around) (base : Heap) (env : Env) (s : Shared) (rt : Nat → Addr) (ρ' : Ro) (I : Addr) (v : Value) (p : PV) (f : List Addr) (Q : Unit → Shared → Prop), Room d A → Fm S sc ns base env s.heap ρ' rt → κ s.heap I → p ∈ items → Rp S s.heap v p f → Clean env ρ' rt f →
      (∀ s', NextIs S sc ns b base env ρ' rt s s' (upd ρ' p) → Q () s') → wpAny (model S.prog S.w) A (letOwnedTupleGo target (.ref I) v) (fun _ s1 => wpAny (model S.prog S.w) A (PySem.assign target env v) Q No s1) No s)
    (step : ∀ j p, items[j]? = some p → Sx S sc ns b d (upd (J j) p) body (LoopPost Φ J (j + 1)))
    (hend : Sx S sc ns b d (J items.length) orelse Φ)
    (hs : ∀ env x, foldedSetIterable iter env x = pure x := by intro _ _; rfl) :
    S1 S sc ns b d ρ (.For target iter body orelse pos) Φ := by
  intro A base env s rt Q R F hQ
  refine wpAny_For (hit A base env s rt _ R F fun s2 I fp P St it hκ => ?_) (hs env)
  have F2 := F.kp it.kp
  have bI : base.get? I = none := by
    cases e : base.get? I with
    | none => rfl
    | some o => obtain ⟨o', e'⟩ := F.alive I o e; rw [it.fresh] at e'; cases e'
  let Inv : Nat → Shared → Prop := fun j s' => ∃ rt', (∃ h tk, s' = { s2 with heap := h, toks := tk }) ∧ KeepB S b (fun x => ownOf env ρ rt x ∨ x = I) s2.heap s'.heap ∧ (∀ x o, x ≠ I → s2.heap.get? x = some o → ∃ o', s'.heap.get? x = some o') ∧
    RootOk ρ rt s2.heap (J j) rt' ∧ Fm S sc ns base env s'.heap (J j) rt' ∧ St j s'.heap
  -- from s' (an invariant state) an outcome relative to s'' (later) is one relative to s
  have lift : ∀ {j : Nat} {s' : Shared} {rt' : Nat → Addr} {s'' : Shared}, (∃ h tk, s' = { s2 with heap := h, toks := tk }) → KeepB S b (fun x => ownOf env ρ rt x ∨ x = I) s2.heap s'.heap → (∀ x o, x ≠ I → s2.heap.get? x = some o → ∃ o', s'.heap.get? x = some o') →
      RootOk ρ rt s2.heap (J j) rt' → Stp S b env (J j) rt' s' s'' → Stp S b env ρ rt s s'' := by
    intro j s' rt' s'' hsm hkp hal ro st
    obtain ⟨hh, tk, e, kk, _⟩ := it.kp
    have sI : ∀ x o, s.heap.get? x = some o → x ≠ I := fun x o e he => by rw [he, it.fresh] at e; cases e
    refine ⟨?_, fun z o hz hb e => ?_, fun z o e => ?_⟩
    · obtain ⟨h1, t1, e1⟩ := hsm
      obtain ⟨h2, t2, e2⟩ := st.same
      exact ⟨h2, t2, by rw [e2, e1, e]⟩
    · have e2 : s2.heap.get? z = some o := by rw [‹s2 = _›]; exact kk z o id hb e
      refine st.keep z o (fun ho => hz (ownOf.back ro e2 ho)) hb (hkp z o (fun ho => ho.elim hz (sI z o e)) hb e2)
    · obtain ⟨o2, e2⟩ := TabOk.alive it.kp.gd it.kp.keep z o e
      obtain ⟨o3, e3⟩ := hal z o2 (sI z o e) e2
      exact st.alive z o3 e3
  have rootBack : ∀ {ρ' : Ro} {rt' : Nat → Addr}, RootOk ρ rt s2.heap ρ' rt' → RootOk ρ rt s.heap ρ' rt' := fun ro i p k e hk => (ro i p k e hk).imp id fun e' => by
    cases q : s.heap.get? _ with
    | none => rfl
    | some o => obtain ⟨o', e''⟩ := TabOk.alive it.kp.gd it.kp.keep _ o q; rw [e'] at e''; cases e''
  refine codeAny_forLoop_any (fun n s' => ∃ j, j ≤ items.length ∧ n = items.length + 1 - j ∧ Inv j s') ?_ (items.length + 1)
    ⟨0, Nat.zero_le _, rfl, rt, ⟨s2.heap, s2.toks, rfl⟩, fun x o _ _ e => e, fun x o _ e => ⟨o, e⟩, .forget h0, F2.forget h0, it.st⟩
  rintro n s' ⟨j, hj, rfl, rt', hsm, hkp, hal, ro, Fj, hst⟩
  have itr := it.itr j _ hst
  by_cases hlt : j < items.length
  · -- a turn
    refine wpAny_mono (E := No) (it.W.item j s' _ _ hlt hst fun v h1 tk1 hP hst1 hk1 => ?_) (fun _ _ h => h) fun _ _ h => h.elim
    have Fj1 : Fm S sc ns base env h1 (J j) rt' := Fj.iter itr bI (fun y o hy e => hk1 y o (fun hm => by cases hm with | head => exact hy rfl | tail _ h => cases h) e) fun o e => by rw [bI] at e; cases e
    obtain ⟨pj, f, e1, e2, e3⟩ := it.item j v hP
    -- the item stands as it stood
    have fOk : ∀ y ∈ f, h1.get? y = s2.heap.get? y := fun y hy => by
      obtain ⟨hTB, o, eo⟩ := e2.lives y hy
      have c := e3 y hy
      have nown : ¬ ownOf env ρ rt y := fun ho => by
        rcases ho with ho | ho | ⟨i, p, e, hr⟩
        · exact c.1 ho
        · exact c.2.1 ho
        · exact c.2.2 i p .mut e (by intro h; cases h) hr
      have nI : y ≠ I := fun he => by
        obtain ⟨o', vs', z1, z2, z3, z4⟩ := it.itr 0 _ it.st
        rw [he, z1] at eo; cases eo
        exact e2.kinds y hy _ (he ▸ z1) _ z3
      have := hkp y o (fun h => h.elim nown nI) (.inr hTB) eo
      rw [hk1 y o (fun hm => by cases hm with | head => exact nI rfl | tail _ h => cases h) this, eo]
    have r1 : Rp S h1 v pj f := e2.mono fun y hy o e => (fOk y hy).trans e
    have k0 : Kp S b { s' with heap := h1, toks := tk1 } { s' with heap := h1, toks := tk1 } := Kp.refl Fj1.gd
    have cl : Clean env (J j) rt' f := fun y hm => ⟨(e3 y hm).1, (e3 y hm).2.1, fun i q k' e hk' he => by
      rcases ro i q k' e hk' with ⟨z1, p', z2⟩ | z1
      · exact (e3 _ hm).2.2 i p' k' z2 hk' (z1.symm.trans he)
      · obtain ⟨_, o, eo⟩ := e2.lives _ hm; rw [he] at z1; rw [z1] at eo; cases eo⟩
    refine wpAny_mono (E := No) (asg A base env { s' with heap := h1, toks := tk1 } rt' (J j) I v pj f (fun _ s3 => wpAny (model S.prog S.w) A (execs body env) (fun f s₃ => match f with
          | .next | .cont => ∃ m, m < items.length + 1 - j ∧ ∃ j, j ≤ items.length ∧ m = items.length + 1 - j ∧ Inv j s₃
          | .brk => Q .next s₃
          | .ret v => Q (.ret v) s₃) No s3) R Fj1 (hκ (j + 1) _ hst1) (List.mem_of_getElem? e1) r1 cl ?_) (fun _ s3' h3' => wpAny_mono h3' (fun _ s3 h3 => ?_) fun _ _ h => h.elim) fun _ _ h => h.elim
    · rintro s3 ⟨st3, rt3, ro3, F3⟩
      -- the iterator and its list are kept by the turn
      have fpKeep : ∀ {s4 s5 : Shared} {ρ4 : Ro} {rt4 : Nat → Addr}, RootOk ρ rt s2.heap ρ4 rt4 → Stp S b env ρ4 rt4 s4 s5 → ∀ y ∈ fp, ∀ o, s4.heap.get? y = some o → s5.heap.get? y = some o := fun ro4 st4 y hy o e => by
        obtain ⟨z1, z2, o', z3⟩ := it.fpOk y hy
        exact st4.keep y o (fun ho => z2 (ownOf.back ro4 z3 ho)) (.inr z1) e
      -- roots of the later frames relative to s2
      have st13 : ∀ {s5 : Shared}, Stp S b env (J j) rt' { s' with heap := h1, toks := tk1 } s5 → ∀ y o, y ≠ I → s2.heap.get? y = some o → ∃ o', s5.heap.get? y = some o' := fun st y o hy e => by
        obtain ⟨o', e'⟩ := hal y o hy e
        exact st.alive y o' (hk1 y o' (fun hm => by cases hm with | head => exact hy rfl | tail _ h => cases h) e')
      have rootS2 : ∀ {s4 : Shared} {ρ4 : Ro} {rt4 : Nat → Addr}, (∀ y o, y ≠ I → s2.heap.get? y = some o → ∃ o', s4.heap.get? y = some o') → (∃ o, s4.heap.get? I = some o) → ∀ {ρ5 : Ro} {rt5 : Nat → Addr}, RootOk ρ rt s2.heap ρ4 rt4 → RootOk ρ4 rt4 s4.heap ρ5 rt5 → RootOk ρ rt s2.heap ρ5 rt5 := fun al4 aI ρ5 rt5 r4 r5 i p k e hk' => by
        rcases r5 i p k e hk' with ⟨z1, p', z2⟩ | z1
        · rcases r4 i p' k z2 hk' with ⟨z3, p'', z4⟩ | z3
          · exact .inl ⟨z1.trans z3, p'', z4⟩
          · exact .inr (by rw [z1]; exact z3)
        · refine .inr ?_
          cases q : s2.heap.get? (rt5 i) with
          | none => rfl
          | some o =>
            by_cases hI : rt5 i = I
            · obtain ⟨o', e'⟩ := aI; rw [← hI, z1] at e'; cases e'
            · obtain ⟨o', e'⟩ := al4 _ o hI q; rw [z1] at e'; cases e'
      obtain ⟨oI, vI, zI, _⟩ := it.itr (j + 1) _ hst1
      have al1 : ∀ y o, y ≠ I → s2.heap.get? y = some o → ∃ o', h1.get? y = some o' := fun y o hy e => by
        obtain ⟨o', e'⟩ := hal y o hy e
        exact ⟨o', hk1 y o' (fun hm => by cases hm with | head => exact hy rfl | tail _ h => cases h) e'⟩
      have kp1 : KeepB S b (fun x => ownOf env ρ rt x ∨ x = I) s2.heap h1 := fun y o hy hb e => hk1 y o (fun hm => by cases hm with | head => exact hy (.inr rfl) | tail _ h => cases h) (hkp y o hy hb e)
      have ro3' : RootOk ρ rt s2.heap (upd (J j) pj) rt3 := rootS2 (s4 := { s' with heap := h1, toks := tk1 }) al1 ⟨oI, zI⟩ ro ro3
      have hst3 : St (j + 1) s3.heap := it.W.frame _ _ _ hst1 (fpKeep ro st3)
      refine step j pj e1 A base env s3 rt3 _ R F3 fun o f5 s5 ho oi => ?_
      have sm1 : ∃ h tk, ({ s' with heap := h1, toks := tk1 } : Shared) = { s2 with heap := h, toks := tk } := by obtain ⟨h, tk, rfl⟩ := hsm; exact ⟨h1, tk1, rfl⟩
      -- to go on
      have goOn : ∀ {ρ5 : Ro}, NextIs S sc ns b base env (upd (J j) pj) rt3 s3 s5 ρ5 → Le (J (j + 1)) ρ5 → ∃ m, m < items.length + 1 - j ∧ ∃ j, j ≤ items.length ∧ m = items.length + 1 - j ∧ Inv j s5 := by
        rintro ρ5 ⟨st5, rt5, ro5, F5⟩ le
        have st15 := st3.trans ro3 st5
        have ro15 := ro3.trans st3 ro5
        refine ⟨items.length + 1 - (j + 1), by (first | lia | omega), j + 1, hlt, rfl, rt5, ?_, fun y o hy hb e => ?_, st13 st15, ?_, F5.forget le, it.W.frame _ _ _ hst3 (fpKeep ro3' st5)⟩
        · obtain ⟨h, tk, e⟩ := sm1
          obtain ⟨h2, t2, e2⟩ := st15.same
          exact ⟨h2, t2, by rw [e2, e]⟩
        · exact st15.keep y o (fun ho' => hy (.inl (ownOf.back ro e ho'))) hb (kp1 y o hy hb e)
        · have := rootS2 (s4 := { s' with heap := h1, toks := tk1 }) al1 ⟨oI, zI⟩ ro ro15
          exact fun i p k e hk' => this i p k (le.2 i _ e) hk'
      have outS : ∀ {f6 : Flow} {o6 : Out}, OutIs S sc ns b base env (upd (J j) pj) rt3 s3 f6 s5 o6 → OutIs S sc ns b base env ρ rt s f6 s5 o6 := by
        intro f6 o6 oi6
        have oi7 := OutIs.trans st3 ro3 oi6
        have up : ∀ {s6 : Shared}, Stp S b env (J j) rt' { s' with heap := h1, toks := tk1 } s6 → Stp S b env ρ rt s s6 := fun st => lift sm1 kp1 al1 ro st
        have upR : ∀ {ρ6 : Ro} {rt6 : Nat → Addr}, RootOk (J j) rt' h1 ρ6 rt6 → RootOk ρ rt s.heap ρ6 rt6 := fun r => rootBack (rootS2 (s4 := { s' with heap := h1, toks := tk1 }) al1 ⟨oI, zI⟩ ro r)
        cases o6 with
        | next ρ6 => obtain ⟨z1, z2, rt6, z3, z4⟩ := oi7; exact ⟨z1, up z2, rt6, upR z3, z4⟩
        | brk ρ6 => obtain ⟨z1, z2, rt6, z3, z4⟩ := oi7; exact ⟨z1, up z2, rt6, upR z3, z4⟩
        | cont ρ6 => obtain ⟨z1, z2, rt6, z3, z4⟩ := oi7; exact ⟨z1, up z2, rt6, upR z3, z4⟩
        | ret p => obtain ⟨v, f', z1, z2, z3⟩ := oi7; exact ⟨v, f', z1, up z2, z3⟩
      cases o with
      | next ρ5 => obtain ⟨rfl, n5⟩ := oi; exact goOn n5 ho
      | cont ρ5 => obtain ⟨rfl, n5⟩ := oi; exact goOn n5 ho
      | brk ρ5 =>
        obtain ⟨rfl, n5⟩ := oi
        exact hQ (.next ρ5) .next s5 ho (outS (f6 := .next) (o6 := .next ρ5) ⟨rfl, n5⟩)
      | ret p5 =>
        obtain ⟨v5, f5', rfl, n5⟩ := oi
        exact hQ (.ret p5) (.ret v5) s5 ho (outS (f6 := .ret v5) (o6 := .ret p5) ⟨v5, f5', rfl, n5⟩)
    · exact wpAny_mono h3 (fun f s4 h4 => by cases f <;> exact h4) fun _ _ h => h.elim
  · -- the end
    have hjn : j = items.length := by (first | lia | omega)
    subst hjn
    refine wpAny_mono (E := No) (it.W.done s' _ _ hst fun h1 tk1 hk1 => ?_) (fun _ _ h => h) fun _ _ h => h.elim
    have Fj1 : Fm S sc ns base env h1 (J items.length) rt' := Fj.iter itr bI (fun y o hy e => hk1 y o (fun hm => by cases hm with | head => exact hy rfl | tail _ h => cases h) e) fun o e => by rw [bI] at e; cases e
    have al1 : ∀ y o, y ≠ I → s2.heap.get? y = some o → ∃ o', h1.get? y = some o' := fun y o hy e => by
      obtain ⟨o', e'⟩ := hal y o hy e
      exact ⟨o', hk1 y o' (fun hm => by cases hm with | head => exact hy rfl | tail _ h => cases h) e'⟩
    have kp1 : KeepB S b (fun x => ownOf env ρ rt x ∨ x = I) s2.heap h1 := fun y o hy hb e => hk1 y o (fun hm => by cases hm with | head => exact hy (.inr rfl) | tail _ h => cases h) (hkp y o hy hb e)
    have sm1 : ∃ h tk, ({ s' with heap := h1, toks := tk1 } : Shared) = { s2 with heap := h, toks := tk } := by obtain ⟨h, tk, rfl⟩ := hsm; exact ⟨h1, tk1, rfl⟩
    have st0 : Stp S b env ρ rt s { s' with heap := h1, toks := tk1 } := lift sm1 kp1 al1 ro (.ofKp (Kp.refl Fj1.gd))
    refine wpAny_mono (E := No) (hend A base env _ rt' Q R Fj1 fun o f s5 ho oi => hQ o f s5 ho (OutIs.trans st0 (rootBack ro) oi)) (fun _ _ h => h) fun _ _ h => h.elim

theorem It.toK {iter : Expr} {items : List PV} (hit : It S sc ns b d ρ iter items) : ItK (fun _ _ => True) S sc ns b d ρ iter items := fun A base env s rt Q R F hQ => hit A base env s rt Q R F fun s2 I fp P St it => hQ s2 I fp P St it fun _ _ _ => trivial
theorem S1.for {x : Str} {px pos : Pos} {iter : Expr} {body orelse : List Stmt} {items : List PV} {Φ : Out → Prop} (t : Nat) (hn : ns[t]? = some x) (hit : It S sc ns b d ρ iter items) (J : Nat → Ro) (h0 : Le (J 0) ρ)
    (step : ∀ j p, items[j]? = some p → Sx S sc ns b d ((J j).set t (some (p, .imm))) body (LoopPost Φ J (j + 1)))
    (hend : Sx S sc ns b d (J items.length) orelse Φ) (nd : ns.Nodup) (hk : locCell sc x = true)
    (hs : ∀ env x, foldedSetIterable iter env x = pure x := by intro _ _; rfl) :
    S1 S sc ns b d ρ (.For (.Name x px) iter body orelse pos) Φ := by
  refine S1.forG (fun ρ p => ρ.set t (some (p, .imm))) hit.toK J h0 (fun A base env s rt ρ' I v p f Q R F _ _ r cl hQ => ?_) step hend hs
  show wpAny _ _ (pure ()) _ _ _
  refine wpAny_pure (wpAny_assign_Name (store_ok F (Kp.refl (b := b) F.gd) nd hn (locCell_or hk) (rt' := rt) (k := .imm) (p := p) (v := v) (fp := f) ⟨r, fun _ _ => rfl, fun y hy => ⟨(cl y hy).1, (cl y hy).2.1⟩, fun i q k' e hk' _ hm => (cl _ hm).2.2 i q k' e hk' rfl, fun hh => absurd rfl hh⟩ hQ))
end
end Mine
open PySem PySem.Calls PyProof.Rows PySem.W
set_option Elab.async false
set_option autoImplicit false
set_option linter.unusedVariables false
namespace Mine
section
variable {S : Sys} {sc : Scope} {ns : List Str} {base : Heap} {env : Env} {s s' s0 : Shared} {ρ : Ro} {rt : Nat → Addr} {b : Bool} {d : Nat} {q : Md} {p p1 p2 p' : PV} {mg mb : Str → Option Value}

/-! closures of comprehensions -/
noncomputable def clOf (cells : List (Str × Addr)) : List (Str × NameKind) → List (Str × Addr) → List (Str × Addr)
  | [], acc => acc
  | (n, k) :: r, acc => if k = .free then clOf cells r ((n, (cells.lookup n).getD 0) :: acc) else clOf cells r acc

theorem closureFor_is {scope : Scope} {env : Env} (h : ∀ n k, (n, k) ∈ scope.names → k = NameKind.free → (env.cells.lookup n).isSome = true) : closureFor scope env = pure (clOf env.cells scope.names []) := by
  have gen : ∀ (l : List (Str × NameKind)) (acc : List (Str × Addr)), (∀ n k, (n, k) ∈ l → k = NameKind.free → (env.cells.lookup n).isSome = true) →
      (forIn l acc fun (x : Str × NameKind) (r : List (Str × Addr)) => (if x.2 == NameKind.free then do let a ← cellOf env x.1; pure (ForInStep.yield ((x.1, a) :: r)) else pure (ForInStep.yield r) : Sem (ForInStep (List (Str × Addr))))) = pure (clOf env.cells l acc) := by
    intro l
    induction l with
    | nil => intro acc _; rfl
    | cons x r ih =>
      obtain ⟨n, k⟩ := x
      intro acc hl
      rw [List.forIn_cons]
      by_cases hk : k = .free
      · subst hk
        have hs := hl n .free (.head _) rfl
        cases hc : env.cells.lookup n with
        | none => rw [hc] at hs; cases hs
        | some c =>
          have e1 : cellOf env n = pure c := by unfold cellOf; rw [hc]
          have e2 : clOf env.cells ((n, NameKind.free) :: r) acc = clOf env.cells r ((n, c) :: acc) := by simp [clOf, hc]
          rw [e2]
          simp only [beq_self_eq_true, if_true, e1, pure_bind]
          exact ih _ fun n k hm => hl n k (.tail _ hm)
      · have hb : (k == NameKind.free) = false := by simpa using hk
        have e2 : clOf env.cells ((n, k) :: r) acc = clOf env.cells r acc := by simp [clOf, hk]
        rw [e2]
        simp only [hb, Bool.false_eq_true, if_false, pure_bind]
        exact ih _ fun n k hm => hl n k (.tail _ hm)
  have := gen scope.names [] h
  unfold closureFor
  simp only [bind_pure]
  exact this

theorem clOf_sound (cells : List (Str × Addr)) : ∀ (l : List (Str × NameKind)) (acc : List (Str × Addr)), (∀ n k, (n, k) ∈ l → k = NameKind.free → (cells.lookup n).isSome = true) → (∀ n c, acc.lookup n = some c → cells.lookup n = some c) →
    ∀ n c, (clOf cells l acc).lookup n = some c → cells.lookup n = some c
  | [], acc, _, ha, n, c, e => ha n c e
  | (m, k) :: r, acc, hl, ha, n, c, e => by
    by_cases hk : k = .free
    · subst hk
      have e2 : clOf cells ((m, NameKind.free) :: r) acc = clOf cells r ((m, (cells.lookup m).getD 0) :: acc) := by simp [clOf]
      rw [e2] at e
      refine clOf_sound cells r _ (fun n k hm => hl n k (.tail _ hm)) (fun n' c' e' => ?_) n c e
      rw [List.lookup_cons] at e'
      cases hb : n' == m with
      | true =>
        rw [hb] at e'
        have := eq_of_beq hb
        subst this
        have hs := hl n' .free (.head _) rfl
        cases hc : cells.lookup n' with
        | none => rw [hc] at hs; cases hs
        | some c0 => rw [hc] at e'; cases e'; rfl
      | false => rw [hb] at e'; exact ha n' c' e'
    · have e2 : clOf cells ((m, k) :: r) acc = clOf cells r acc := by simp [clOf, hk]
      rw [e2] at e
      exact clOf_sound cells r _ (fun n k hm => hl n k (.tail _ hm)) ha n c e
theorem clOf_keeps (cells : List (Str × Addr)) {n : Str} : ∀ (l : List (Str × NameKind)) (acc : List (Str × Addr)), (acc.lookup n).isSome = true → ((clOf cells l acc).lookup n).isSome = true
  | [], acc, h => h
  | (m, k) :: r, acc, h => by
    by_cases hk : k = .free
    · subst hk
      have e2 : clOf cells ((m, NameKind.free) :: r) acc = clOf cells r ((m, (cells.lookup m).getD 0) :: acc) := by simp [clOf]
      rw [e2]
      refine clOf_keeps cells r _ ?_
      rw [List.lookup_cons]
      cases hb : n == m <;> simp_all
    · have e2 : clOf cells ((m, k) :: r) acc = clOf cells r acc := by simp [clOf, hk]
      rw [e2]; exact clOf_keeps cells r _ h
theorem clOf_has (cells : List (Str × Addr)) {n : Str} : ∀ (l : List (Str × NameKind)) (acc : List (Str × Addr)), (n, NameKind.free) ∈ l → ((clOf cells l acc).lookup n).isSome = true
  | (m, k) :: r, acc, h => by
    rcases List.mem_cons.mp h with h1 | h1
    · cases h1
      have e2 : clOf cells ((n, NameKind.free) :: r) acc = clOf cells r ((n, (cells.lookup n).getD 0) :: acc) := by simp [clOf]
      rw [e2]
      exact clOf_keeps cells r _ (by simp [List.lookup_cons])
    · by_cases hk : k = .free
      · subst hk
        have e2 : clOf cells ((m, NameKind.free) :: r) acc = clOf cells r ((m, (cells.lookup m).getD 0) :: acc) := by simp [clOf]
        rw [e2]; exact clOf_has cells r _ h1
      · have e2 : clOf cells ((m, k) :: r) acc = clOf cells r acc := by simp [clOf, hk]
        rw [e2]; exact clOf_has cells r _ h1

theorem relabel_lookup {env : Env} {n : Str} : ∀ (l : List (Str × NameKind)),
    (l.map fun (n, k) => if (k == NameKind.free && env.scope.kind == .function && env.kindOf n == some .cell) then (n, NameKind.cell) else (n, k)).lookup n =
      match l.lookup n with
      | some k => some (if (k == NameKind.free && env.scope.kind == .function && env.kindOf n == some .cell) then NameKind.cell else k)
      | none => none
  | [] => rfl
  | (m, k) :: r => by
    rw [List.map_cons]
    show List.lookup n ((if (k == NameKind.free && env.scope.kind == .function && env.kindOf m == some .cell) = true then (m, NameKind.cell) else (m, k)) :: _) = _
    rw [List.lookup_cons (as := r)]
    cases hb : n == m with
    | true =>
      have := eq_of_beq hb
      subst this
      by_cases hc : (k == NameKind.free && env.scope.kind == .function && env.kindOf n == some .cell) = true
      · rw [if_pos hc, List.lookup_cons]; simp [hc]
      · rw [if_neg hc, List.lookup_cons]; simp [hc]
    | false =>
      by_cases hc : (k == NameKind.free && env.scope.kind == .function && env.kindOf m == some .cell) = true
      · rw [if_pos hc, List.lookup_cons, hb]; exact relabel_lookup r
      · rw [if_neg hc, List.lookup_cons, hb]; exact relabel_lookup r

structure CompOk (sc : Scope) (ns : List Str) (scope : Scope) (x : Str) (caps : List Nat) : Prop where
  nd : caps.Nodup
  kind : scope.kind = .function
  cell : (scope.names.all fun y => y.2 != .cell) = true
  names : (scope.names.all fun y => y.2 != .local || scope.names.lookup y.1 == some .local) = true
  loc : scope.names.lookup x = some .local
  free : (scope.names.all fun y => y.2 != .free || sc.names.lookup y.1 == some .cell) = true
  caps : (caps.all fun i => match ns[i]? with | some y => scope.names.lookup y == some .free | none => false) = true

noncomputable def capNs (ns : List Str) (x : Str) (caps : List Nat) : List Str := x :: caps.map fun i => (ns[i]?).getD x
noncomputable def capRo (ρ : Ro) (p : PV) (caps : List Nat) : Ro := some (p, .imm) :: caps.map fun i => (ρ[i]?).getD none

theorem mem_of_lookup' {l : List (Str × NameKind)} {n : Str} {k : NameKind} (h : l.lookup n = some k) : (n, k) ∈ l := mem_of_lookup h

theorem Fm.comp {h : Heap} {scope : Scope} {x : Str} {caps : List Nat} {C : Addr} {m : Str → Option Value} {v : Value} (F : Fm S sc ns base env h ρ rt) (ok : CompOk sc ns scope x caps)
    (hCb : base.get? C = none) (hCn : h.Ns C m) (hm : m x = some v) (rv : Rp S h v p []) (hCf : ∀ i x p k, ns[i]? = some x → ρ[i]? = some (some (p, k)) → ∃ v fp, Var S base env h ρ rt i x p k v fp ∧ C ∉ fp) :
    ∃ rt', Fm S scope (capNs ns x caps) base (compEnvC scope (clOf env.cells scope.names []) C env) h (capRo ρ p caps) rt' := by
  have frees : ∀ n k, (n, k) ∈ scope.names → k = NameKind.free → sc.names.lookup n = some .cell := fun n k hm hk => by
    have := List.all_eq_true.mp ok.free (n, k) hm
    subst hk
    simpa using this
  have has : ∀ n k, (n, k) ∈ scope.names → k = NameKind.free → (env.cells.lookup n).isSome = true := fun n k hm hk => F.cellsAll n (frees n k hm hk)
  have cl1 : ∀ n c, (clOf env.cells scope.names []).lookup n = some c → env.cells.lookup n = some c := clOf_sound env.cells scope.names [] has (fun n c e => by cases e)
  have kOf : ∀ y, (compEnvC scope (clOf env.cells scope.names []) C env).kindOf y = match scope.names.lookup y with
      | some k => some (if (k == NameKind.free && env.scope.kind == .function && env.kindOf y == some .cell) then NameKind.cell else k)
      | none => none := fun y => relabel_lookup (env := env) scope.names
  have isC : ∀ c, isCellOf (compEnvC scope (clOf env.cells scope.names []) C env) c → isCellOf env c := fun c ⟨n, e⟩ => ⟨n, cl1 n c e⟩
  refine ⟨fun j => match j with | 0 => 0 | j + 1 => rt ((caps[j]?).getD 0), F.gd, ok.kind, fun y => ?_, F.glob, F.blt, F.top, F.alive, hCb, ⟨m, hCn⟩, fun c hc => F.cellB c (isC c hc), fun n n' c e e' => F.cellInj n n' c (cl1 n c e) (cl1 n' c e'), fun y hy => ?_, by simp [capNs, capRo], fun i y pi ki ey e => ?_⟩
  · rw [kOf y]
    cases hl : scope.names.lookup y with
    | none => exact .inl rfl
    | some k =>
      by_cases hc : (k == NameKind.free && env.scope.kind == .function && env.kindOf y == some .cell) = true
      · refine .inr ⟨?_, by simp [hc]⟩
        have : k = .free := by simp only [Bool.and_eq_true, beq_iff_eq] at hc; exact hc.1.1
        rw [this]
      · exact .inl (by simp [hc])
  · have := List.all_eq_true.mp ok.cell (y, .cell) (mem_of_lookup' hy)
    simp at this
  · cases i with
    | zero =>
      simp only [capNs, List.getElem?_cons_zero, Option.some.injEq] at ey
      subst ey
      simp only [capRo, List.getElem?_cons_zero, Option.some.injEq] at e
      cases e
      refine ⟨v, [], .inl ⟨?_, m, hCn, hm⟩, rv, fun z hz => (by cases hz), fun h => absurd rfl h, fun j q k' e hk hne hm => (by cases hm)⟩
      rw [kOf x, ok.loc]; rfl
    | succ j =>
      have hj : ∃ i0, caps[j]? = some i0 := by
        cases hq : caps[j]? with
        | none =>
          simp only [capRo, List.getElem?_cons_succ, List.getElem?_map, hq] at e
          cases e
        | some i0 => exact ⟨i0, rfl⟩
      obtain ⟨i0, hi0⟩ := hj
      have hcap := List.all_eq_true.mp ok.caps i0 (List.mem_of_getElem? hi0)
      cases hy : ns[i0]? with
      | none => simp [hy] at hcap
      | some y0 =>
        simp only [hy, beq_iff_eq] at hcap
        have ey' : y = y0 := by
          simp only [capNs, List.getElem?_cons_succ, List.getElem?_map, hi0, Option.map_some, hy, Option.getD_some, Option.some.injEq] at ey
          exact ey.symm
        subst ey'
        have e' : ρ[i0]? = some (some (pi, ki)) := by
          simp only [capRo, List.getElem?_cons_succ, List.getElem?_map, hi0, Option.map_some, Option.some.injEq] at e
          cases hr : ρ[i0]? with
          | none => rw [hr] at e; cases e
          | some z => rw [hr] at e; simp at e; rw [e]
        obtain ⟨w, fp, V, hCfp⟩ := hCf i0 y pi ki hy e'
        have hsc := frees y .free (mem_of_lookup' hcap) rfl
        have hk : env.kindOf y = some .cell := by
          rcases F.kinds y with h | ⟨h, h'⟩
          · rw [h, hsc]
          · exact h'
        have hk' : (compEnvC scope (clOf env.cells scope.names []) C env).kindOf y = some .cell := by
          rw [kOf y, hcap]
          simp [hk, F.kind]
        have hcl : ∃ c, (clOf env.cells scope.names []).lookup y = some c := by
          have := clOf_has env.cells (n := y) scope.names [] (mem_of_lookup' hcap)
          cases hq : (clOf env.cells scope.names []).lookup y with
          | none => rw [hq] at this; cases this
          | some c => exact ⟨c, rfl⟩
        obtain ⟨c, hc⟩ := hcl
        refine ⟨w, fp, ?_, V.rp, fun z hz => ⟨fun he => ?_, fun hi => (V.loc z hz).2 (isC z hi)⟩, fun hown => ?_, fun j' q' k' e'' hk'' hne => ?_⟩
        · rcases V.rd with ⟨r1, _⟩ | ⟨r1, c', r2, r3⟩
          · rw [hk] at r1; (first | obtain ⟨_, rfl, rfl⟩ := r1.inv | cases r1)
          · rw [cl1 y c hc] at r2; (first | obtain ⟨_, rfl, rfl⟩ := r2.inv | cases r2)
            exact .inr ⟨(.inl hk'), c, hc, r3⟩
        · exact hCfp ((show z = C from he) ▸ hz)
        · simp only [hi0, Option.getD_some]
          exact V.own hown
        · cases j' with
          | zero =>
            simp only [capRo, List.getElem?_cons_zero, Option.some.injEq] at e''
            cases e''; exact absurd rfl hk''
          | succ j' =>
            have hj2 : ∃ i1, caps[j']? = some i1 := by
              cases hq : caps[j']? with
              | none =>
                simp only [capRo, List.getElem?_cons_succ, List.getElem?_map, hq] at e''
                cases e''
              | some i1 => exact ⟨i1, rfl⟩
            obtain ⟨i1, hi1⟩ := hj2
            have e3 : ρ[i1]? = some (some (q', k')) := by
              simp only [capRo, List.getElem?_cons_succ, List.getElem?_map, hi1, Option.map_some, Option.some.injEq] at e''
              cases hr : ρ[i1]? with
              | none => rw [hr] at e''; cases e''
              | some z => rw [hr] at e''; simp at e''; rw [e'']
            simp only [hi1, Option.getD_some]
            by_cases h01 : i1 = i0
            · subst h01
              obtain ⟨g1, g2⟩ := List.getElem?_eq_some_iff.mp hi0
              obtain ⟨g3, g4⟩ := List.getElem?_eq_some_iff.mp hi1
              exact absurd (congrArg Nat.succ ((List.getElem_inj ok.nd).mp (g4.trans g2.symm))) hne
            · exact V.sep i1 q' k' e3 hk'' h01

/-! comprehensions of atoms -/
noncomputable def atomOf : Value → PV
  | .int i _ => .int i
  | .bool b => .bool b
  | .str x _ => .str x
  | _ => .none
theorem Rp.atomOf {h : Heap} {v : Value} {fp : List Addr} (r : Rp S h v p fp) (a : p.atom = true) : Mine.atomOf v = p := by
  (first | obtain ⟨_, rfl, rfl⟩ := r.inv | cases r) <;> first | rfl | cases a
theorem Rp.anyHeap {h h' : Heap} {v : Value} {fp : List Addr} (r : Rp S h v p fp) (a : p.atom = true) : Rp S h' v p [] := by
  have := r.atomNil a
  subst this
  exact r.mono fun x hx => by cases hx

inductive TrC (S : Sys) (sc : Scope) (ns : List Str) (b : Bool) (d : Nat) (ρ : Ro) : List Expr → Bool → Prop
  | nil : TrC S sc ns b d ρ [] true
  | one {e : Expr} {t : Bool} : Tr S sc ns b d ρ e t → TrC S sc ns b d ρ [e] t

theorem Gd.iter {h h' : Heap} {I : Addr} (G : Gd S h) (it : Itr h I) (hb : S.hT.get? I = none) (k : ∀ x o, x ≠ I → h.get? x = some o → h'.get? x = some o) : Gd S h' := by
  obtain ⟨oI, vsI, e1, e2, e3, e4⟩ := it
  refine ⟨fun x o hx e => k x o (fun he => ?_) (G.top x o hx e), fun t ht => ?_⟩
  · subst he; rw [hb] at e; cases e
  · obtain ⟨ps, e, r⟩ := G.tab t ht
    refine ⟨ps, k _ _ (fun he => ?_) e, r.imp id fun ⟨c', q1, c, o, vs, t', q2, q3, q4, q5⟩ => ⟨c', q1, c, o, vs, t', q2, k _ _ (fun he => ?_) q3, q4, q5⟩⟩
    · subst he; rw [e] at e1; cases e1; exact e2 rfl
    · subst he; rw [q3] at e1; cases e1; rw [q4] at e3; cases e3; exact e4 _ _ q5

theorem Var.iter {h h' : Heap} {I : Addr} {i : Nat} {x : Str} {k : Own} {v : Value} {fp : List Addr} (V : Var S base env h ρ rt i x p k v fp) (it : Itr h I) (kk : ∀ x o, x ≠ I → h.get? x = some o → h'.get? x = some o) : Var S base env h' ρ rt i x p k v fp := by
  obtain ⟨oI, vsI, e1, e2, e3, e4⟩ := it
  have k' : ∀ {x o}, h.get? x = some o → (∀ vs, o.data ≠ .fields vs) → h'.get? x = some o := fun e hd => kk _ _ (fun he => by subst he; rw [e1] at e; cases e; exact hd _ e3) e
  refine ⟨?_, V.rp.mono fun y hy o e => k' e (V.rp.kinds y hy o e), V.loc, fun hk => ?_, V.sep⟩
  · rcases V.rd with ⟨r1, m', ⟨o, es, ep, z1, z2, z3⟩, r3⟩ | ⟨r1, c, r2, o, r3, r4⟩
    · exact .inl ⟨r1, m', ⟨o, es, ep, k' z1 (fun vs h => by rw [z2] at h; cases h), z2, z3⟩, r3⟩
    · exact .inr ⟨r1, c, r2, o, k' r3 (fun vs h => by rw [r4] at h; cases h), r4⟩
  · obtain ⟨o1, o2, ⟨ob, o3, o4, o5⟩, o6⟩ := V.own hk
    exact ⟨o1, o2, ⟨ob, k' o3 o5, o4, o5⟩, o6⟩

theorem compKp {s2 : Shared} {I : Addr} {h' : Heap} {tk : Nat} (k : Kp S b s s2) (it : Itr s2.heap I) (hf : s.heap.get? I = none) (hT : S.hT.get? I = none) (hk : ∀ x o, x ∉ [I] → s2.heap.get? x = some o → h'.get? x = some o) : Kp S b s { s2 with heap := h', toks := tk } := by
  have hk' : ∀ x o, x ≠ I → s2.heap.get? x = some o → h'.get? x = some o := fun x o hx e => hk x o (fun hm => by cases hm with | head => exact hx rfl | tail _ h => cases h) e
  obtain ⟨hh, tk0, e, kk, g⟩ := k
  refine ⟨h', tk, by rw [e], fun x o a hb ex => hk' x o (fun he => ?_) (by rw [e]; exact kk x o a hb ex), ?_⟩
  · rw [he, hf] at ex; cases ex
  · rw [e] at it hk'
    exact g.iter it hT hk'

theorem paired_out {h : Heap} {f : PV → PV} {tst : PV → Bool} : ∀ {vs : List Value} {ys : List Value}, Paired (fun v y => ∀ h, (tst (atomOf v) = true) → Rp S h y (f (atomOf v)) []) (vs.filter fun v => tst (atomOf v)) ys →
    Rps S h ys (((vs.map atomOf).filter tst).map f) []
  | [], _, pr => by cases pr; exact .nil
  | v :: vs, ys, pr => by
    rw [List.map_cons]
    by_cases ht : tst (atomOf v) = true
    · rw [List.filter_cons_of_pos (by simpa using ht)] at pr
      rw [List.filter_cons_of_pos ht, List.map_cons]
      cases pr with
      | cons a r => exact .cons (f1 := []) (a h ht) (paired_out r)
    · rw [List.filter_cons_of_neg (by simpa using ht)] at pr
      rw [List.filter_cons_of_neg ht]
      exact paired_out pr

theorem comp_quiet {A : Around} {scope : Scope} {x : Str} {caps : List Nat} {ifs : List Expr} {elt : Expr} {items : List PV} {tst : PV → Bool} {f : PV → PV} {s2 : Shared} {I : Addr} {fp : List Addr} {P : Nat → Value → Prop} {St : Nat → Heap → Prop}
    (R : Room d A) (F : Fm S sc ns base env s.heap ρ rt) (it : Iter S b A env ρ rt s items s2 I fp P St) (ok : CompOk sc ns scope x caps) (ha : items.all (·.atom) = true)
    (ht : ∀ p ∈ items, TrC S scope (capNs ns x caps) true d (capRo ρ p caps) ifs (tst p))
    (he : ∀ p ∈ items, tst p = true → Ev S scope (capNs ns x caps) true d .R (capRo ρ p caps) elt (f p)) (hf : ∀ p ∈ items, tst p = true → (f p).atom = true) :
    QuietOnC S.prog S.w A env scope (clOf env.cells scope.names []) x ifs elt [I] P (fun v => tst (atomOf v)) (fun v y => ∀ h, (tst (atomOf v) = true) → Rp S h y (f (atomOf v)) []) s2 := by
  have F2 := F.kp it.kp
  have bI : base.get? I = none := by
    cases e : base.get? I with
    | none => rfl
    | some o => obtain ⟨o', e'⟩ := F.alive I o e; rw [it.fresh] at e'; cases e'
  have fr : ∀ {C : Addr} {v : Value} {s₃ : Shared} {m₃ : Str → Option Value} {i : Nat}, s2.heap.objs.size ≤ C → P i v → s₃.heap.Ns C m₃ → m₃ x = some v → (∀ y o, y ∉ [I] → s2.heap.get? y = some o → s₃.heap.get? y = some o) →
      ∃ p, p ∈ items ∧ atomOf v = p ∧ ∃ rt', Fm S scope (capNs ns x caps) base (compEnvC scope (clOf env.cells scope.names []) C env) s₃.heap (capRo ρ p caps) rt' := by
    intro C v s₃ m₃ i hC hP hn hm hk
    obtain ⟨p, f, e1, e2, _⟩ := it.item i v hP
    have hmem := List.mem_of_getElem? e1
    have hat := List.all_eq_true.mp ha p hmem
    have F3 : Fm S sc ns base env s₃.heap ρ rt := F2.iter (it.itr 0 _ it.st) bI (fun y o hy e => hk y o (fun hm => by cases hm with | head => exact hy rfl | tail _ h => cases h) e) fun o e => by rw [bI] at e; cases e
    have none2 : s2.heap.get? C = none := by
      cases e : s2.heap.get? C with
      | none => rfl
      | some o => exact absurd (Heap.lt_size e) (Nat.not_lt.mpr hC)
    refine ⟨p, hmem, e2.atomOf hat, F3.comp ok ?_ hn hm (e2.anyHeap hat) fun i x p k ex e => ?_⟩
    · cases e : base.get? C with
      | none => rfl
      | some o => obtain ⟨o', e'⟩ := F2.alive C o e; rw [none2] at e'; cases e'
    · obtain ⟨v, fp, V⟩ := F2.vars i x p k ex e
      refine ⟨v, fp, V.iter (it.itr 0 _ it.st) (fun y o hy e => hk y o (fun hm => by cases hm with | head => exact hy rfl | tail _ h => cases h) e), fun hm => ?_⟩
      obtain ⟨_, o, eo⟩ := V.rp.lives C hm
      rw [none2] at eo; cases eo
  refine ⟨fun C i v s₃ m₃ E' hC hP hn hm hk _ => ?_, fun C i v s₃ m₃ E' hC hP hpv hn hm hk _ => ?_⟩
  · obtain ⟨p, hp, ep, rt', Fc⟩ := fr hC hP hn hm hk
    have key : ∀ {t : Bool}, TrC S scope (capNs ns x caps) true d (capRo ρ p caps) ifs t →
        wpAny (model S.prog S.w) A (forIn ifs true fun c r => if r = true then do let ok ← isTrue c (compEnvC scope (clOf env.cells scope.names []) C env) (eval c (compEnvC scope (clOf env.cells scope.names []) C env)); pure (ForInStep.yield ok) else pure (ForInStep.yield r))
          (fun ok s₄ => ok = t ∧ Keeps s₃ s₄) No s₃ := by
      intro t tp
      cases tp with
      | nil => exact wpAny_pure ⟨rfl, s₃.heap, s₃.toks, rfl, fun _ _ e => e⟩
      | one t1 =>
        simp only [List.forIn_cons, List.forIn_nil, if_true]
        refine wpAny_bind (wpAny_bind (t1 A base _ s₃ rt' _ R Fc fun s4 k4 => wpAny_pure (wpAny_pure ⟨rfl, ?_⟩)))
        obtain ⟨h, tk, e, kk, _⟩ := k4
        exact ⟨h, tk, e, fun y o ey => kk y o id (.inl rfl) ey⟩
    have k2 := key (ht p hp)
    rw [← ep] at k2
    exact wpAny_mono k2 (fun _ _ h => h) fun _ _ h => h.elim
  · obtain ⟨p, hp, ep, rt', Fc⟩ := fr hC hP hn hm hk
    rw [ep] at hpv
    refine wpAny_mono (E := No) (he p hp hpv A base _ s₃ rt' _ R Fc fun y s4 fp4 k4 r4 _ => ?_) (fun _ _ h => h) fun _ _ h => h.elim
    obtain ⟨h, tk, e, kk, _⟩ := k4
    exact ⟨fun h' _ => by rw [ep]; exact r4.anyHeap (hf p hp hpv), h, tk, e, fun y o ey => kk y o id (.inl rfl) ey⟩
end
end Mine
open PySem PySem.Calls PyProof.Rows PySem.W
set_option Elab.async false
set_option autoImplicit false
set_option linter.unusedVariables false
namespace Mine
section
variable {S : Sys} {sc : Scope} {ns : List Str} {base : Heap} {env : Env} {s s' s0 : Shared} {ρ : Ro} {rt : Nat → Addr} {b : Bool} {d : Nat} {q : Md} {p p1 p2 p' : PV} {mg mb : Str → Option Value}

theorem CompOk.cell' {scope : Scope} {x : Str} {caps : List Nat} (ok : CompOk sc ns scope x caps) : ∀ y ∈ scope.names, y.2 ≠ .cell := fun y hy h => by
  have := List.all_eq_true.mp ok.cell y hy
  rw [h] at this; simp at this
theorem CompOk.names' {scope : Scope} {x : Str} {caps : List Nat} (ok : CompOk sc ns scope x caps) : ∀ y ∈ scope.names, y.2 = .local → scope.names.lookup y.1 = some .local := fun y hy h => by
  have := List.all_eq_true.mp ok.names y hy
  rw [h] at this; simpa using this
theorem CompOk.clos {h : Heap} {scope : Scope} {x : Str} {caps : List Nat} (ok : CompOk sc ns scope x caps) (F : Fm S sc ns base env h ρ rt) : closureFor scope env = pure (clOf env.cells scope.names []) :=
  closureFor_is fun n k hm hk => F.cellsAll n (by
    have := List.all_eq_true.mp ok.free (n, k) hm
    subst hk
    simpa using this)

theorem Iter.topNone {A : Around} {items : List PV} {s2 : Shared} {I : Addr} {fp : List Addr} {P : Nat → Value → Prop} {St : Nat → Heap → Prop} (it : Iter S b A env ρ rt s items s2 I fp P St) (F : Fm S sc ns base env s.heap ρ rt) : S.hT.get? I = none := by
  cases e : S.hT.get? I with
  | none => rfl
  | some o =>
    obtain ⟨o', e'⟩ := F.top I o e
    obtain ⟨o2, e2⟩ := F.alive I o' e'
    rw [it.fresh] at e2; cases e2

theorem items_of {A : Around} {items : List PV} {s2 : Shared} {I : Addr} {fp : List Addr} {P : Nat → Value → Prop} {St : Nat → Heap → Prop} (it : Iter S b A env ρ rt s items s2 I fp P St) (ha : items.all (·.atom) = true) {vs : List Value}
    (hl : vs.length = items.length) (hP : ∀ j v, vs[j]? = some v → P j v) : vs.map atomOf = items := by
  apply List.ext_getElem?
  intro j
  rw [List.getElem?_map]
  cases hv : vs[j]? with
  | none =>
    have : items.length ≤ j := by rw [← hl]; exact List.getElem?_eq_none_iff.mp hv
    rw [List.getElem?_eq_none_iff.mpr this]; rfl
  | some v =>
    obtain ⟨p, f, e1, e2, _⟩ := it.item j v (hP j v hv)
    rw [e1, Option.map_some, e2.atomOf (List.all_eq_true.mp ha p (List.mem_of_getElem? e1))]

theorem Ev.comp {elt iter : Expr} {x : Str} {px : Pos} {ifs : List Expr} {scope : Scope} {pos : Pos} {items : List PV} {tst : PV → Bool} {f : PV → PV} (caps : List Nat) (ok : CompOk sc ns scope x caps) (hit : It S sc ns b d ρ iter items)
    (ha : items.all (·.atom) = true) (hsz : items.length ≤ sizeLine)
    (ht : ∀ p ∈ items, TrC S scope (capNs ns x caps) true d (capRo ρ p caps) ifs (tst p))
    (he : ∀ p ∈ items, tst p = true → Ev S scope (capNs ns x caps) true d .R (capRo ρ p caps) elt (f p)) (hf : ∀ p ∈ items, tst p = true → (f p).atom = true)
    (hs : ∀ env x, foldedSetIterable iter env x = pure x := by intro _ _; rfl) :
    Ev S sc ns b d q ρ (.ListComp elt [⟨.Name x px, iter, ifs, 0⟩] scope pos) (.list ((items.filter tst).map f)) := by
  intro A base env s rt Q R F hQ
  refine wpAny_ListComp_free (fun v => tst (atomOf v)) (fun v y => ∀ h, (tst (atomOf v) = true) → Rp S h y (f (atomOf v)) []) (ok.clos F) ok.cell' ok.kind ok.names' ok.loc (hit A base env s rt _ R F fun s2 I fp P St it => ?_) (hs env)
  refine ⟨I, fp, [I], items.length, P, St, rfl, it.W, hsz, it.st, fun y hy => let ⟨_, _, o, e⟩ := it.fpOk y hy; Heap.lt_size e, comp_quiet R F it ok ha ht he hf, fun D h' tk ys vs hD _ hpl hlen hP hpr hk => ?_⟩
  have hT := it.topNone F
  have kp : Kp S b s { s2 with heap := h', toks := tk } := compKp it.kp (it.itr 0 _ it.st) it.fresh hT hk
  have hout : Rps S h' ys.toList ((items.filter tst).map f) [] := by
    have := paired_out (S := S) (h := h') hpr
    rw [items_of it ha hlen hP] at this
    exact this
  have hDT : D ∉ S.TB := fun hm => by obtain ⟨ps, e⟩ := tb_data it.kp.gd.tab hm; rw [hD] at e; cases e
  have hpl' : h'.PlainList D ys.toList.toArray := by simpa using hpl
  refine hQ (.ref D) { s2 with heap := h', toks := tk } [D] kp (.list hDT hpl' hout) (MdOk.ofF F (fun y hy => ?_) q)
  cases hy with
  | head => exact it.kp.dead hD
  | tail _ h => cases h

theorem comp_store {k : Own} {A : Around} {i : Nat} {y : Str} {items : List PV} {s2 : Shared} {I D : Addr} {fp : List Addr} {P : Nat → Value → Prop} {St : Nat → Heap → Prop} {h' : Heap} {tk : Nat} {ys : List Value} {ps : List PV} {m : Str → Option Value}
    (F : Fm S sc ns base env s.heap ρ rt) (it : Iter S b A env ρ rt s items s2 I fp P St) (nd : ns.Nodup) (hn : ns[i]? = some y) (ky : env.kindOf y = some .local)
    (hD : s2.heap.get? D = none) (hpl : h'.PlainList D ys.toArray) (hr : Rps S h' ys ps []) (hns : s2.heap.Ns env.locals m) (hns' : h'.Ns env.locals (fun z => if z = y then some (.ref D) else m z))
    (hk : ∀ x o, x ≠ env.locals → x ∉ [I] → s2.heap.get? x = some o → h'.get? x = some o) :
    NextIs S sc ns b base env ρ rt s { s2 with heap := h', toks := tk } (ρ.set i (some (.list ps, k))) := by
  have F2 := F.kp it.kp
  obtain ⟨oL, es, ep, eL, dL, sL, fL⟩ := id hns
  obtain ⟨oL', es', ep', eL', dL', _⟩ := id hns'
  have fL' : ((fun _ => oL) oL' : Obj).isFreed = false := (Heap.get?_some_iff.mp eL).2
  let hm : Heap := h'.update env.locals (fun _ => oL)
  have hmL : hm.get? env.locals = some oL := Heap.get?_update_self _ eL' fL'
  have hmN : ∀ x, x ≠ env.locals → hm.get? x = h'.get? x := fun x hx => Heap.get?_update_other _ _ (Ne.symm hx)
  have sb : Heap.SameBut env.locals hm h' := ⟨(Heap.SameBut.update h' env.locals _).1.symm, fun x hx => (hmN x hx).symm⟩
  have nI : env.locals ≠ I := fun he => by
    obtain ⟨o, vs, z1, _, z3, _⟩ := it.itr 0 _ it.st
    rw [← he, eL] at z1; cases z1; rw [dL] at z3; cases z3
  have hkm : ∀ x o, x ∉ [I] → s2.heap.get? x = some o → hm.get? x = some o := fun x o hx e => by
    by_cases hL : x = env.locals
    · subst hL; rw [eL] at e; cases e; exact hmL
    · rw [hmN x hL]; exact hk x o hL hx e
  have kp : Kp S b s { s2 with heap := hm, toks := tk } := compKp it.kp (it.itr 0 _ it.st) it.fresh (it.topNone F) hkm
  have DL : D ≠ env.locals := fun he => by rw [he, eL] at hD; cases hD
  have hDT : D ∉ S.TB := fun hm => by obtain ⟨ps, e⟩ := tb_data it.kp.gd.tab hm; rw [hD] at e; cases e
  obtain ⟨n, eD⟩ := id hpl
  have fresh : ∀ z ∈ [D], s.heap.get? z = none := fun z hz => by cases hz with | head => exact it.kp.dead hD | tail _ h => cases h
  have c := Clean.fresh F fresh
  have st : Storable S base env s { s2 with heap := hm, toks := tk } ρ rt (fun j => if j = i then D else rt j) i (.list ps) k (.ref D) [D] := by
    refine ⟨.list hDT ⟨n, by rw [hmN D DL]; exact eD⟩ (hr.mono fun x hx => by cases hx), fun j hj => by simp [hj], fun z hz => ⟨(c z hz).1, (c z hz).2.1⟩, fun j q k' e hk' _ hm => (c _ hm).2.2 j q k' e hk' rfl, fun _ => ?_⟩
    show Value.ref D = Value.ref (if i = i then D else rt i) ∧ _ ∧ (∃ ob, hm.get? (if i = i then D else rt i) = _ ∧ _) ∧ ∃ fp', [D] = (if i = i then D else rt i) :: fp' ∧ _
    rw [if_pos rfl]
    exact ⟨rfl, fresh, ⟨_, by rw [hmN D DL]; exact eD, rfl, fun _ h => by cases h⟩, [], rfl, by intro h; cases h⟩
  refine F.stored kp nd hn st (.inl rfl) sb (.inl ⟨ky, _, hns', by simp⟩) ⟨_, hns'⟩ (fun c hc => ?_) (fun z w hz r => ?_) tk
  · obtain ⟨_, v, o, e, e2⟩ := F2.cellB c hc
    refine ⟨v, o, hk c o (isCellOf.ne F2 hc) (fun hm => ?_) e, e2⟩
    cases hm with
    | head =>
      obtain ⟨o', vs, z1, _, z3, _⟩ := it.itr 0 _ it.st
      rw [e] at z1; cases z1; rw [e2] at z3; cases z3
    | tail _ h => cases h
  · rcases r with ⟨r1, m', r2, r3⟩ | ⟨r1, c, r2, o, r3, r4⟩
    · refine .inl ⟨r1, _, hns', ?_⟩
      have hmNs : hm.Ns env.locals m := ⟨oL, es, ep, hmL, dL, sL, fL⟩
      have : m' z = m z := ns_unique r2 hmNs z
      simp [hz, ← this, r3]
    · exact .inr ⟨r1, c, r2, o, (sb.2 c (isCellOf.ne F2 ⟨z, r2⟩)).trans r3, r4⟩

theorem swaps_local {scope : Scope} {elt iter : Expr} {x y : Str} {px py : Pos} {ifs : List Expr} {pos spos : Pos} (hb : env.blockKind = .function) (hk : env.kindOf y = some .local) (hl : (py.line == pos.line) = true)
    (hv : (scope.names.any fun z => z.1 == y && (z.2 == .local || z.2 == .cell)) = false) : swapsWith (.ListComp elt [⟨.Name x px, iter, ifs, 0⟩] scope pos) (some (.Name y py)) spos.line env = pure true := by
  show (pure (env.blockKind == .function && env.kindOf y == some .local && py.line == pos.line && !(scope.names.any fun z => z.1 == y && (z.2 == .local || z.2 == .cell))) : Sem Bool) = pure true
  rw [hb, hk, hl, hv]; rfl
theorem swaps_cell {scope : Scope} {elt iter : Expr} {x y : Str} {px py : Pos} {ifs : List Expr} {pos spos : Pos} (hk : env.kindOf y = some .cell) : swapsWith (.ListComp elt [⟨.Name x px, iter, ifs, 0⟩] scope pos) (some (.Name y py)) spos.line env = pure false := by
  show (pure (env.blockKind == .function && env.kindOf y == some .local && py.line == pos.line && !(scope.names.any fun z => z.1 == y && (z.2 == .local || z.2 == .cell))) : Sem Bool) = pure false
  rw [hk]
  have : (some NameKind.cell == some NameKind.local) = false := by decide
  rw [this, Bool.and_false]; rfl

theorem S1.assignComp {elt iter : Expr} {x y : Str} {px py : Pos} {ifs : List Expr} {scope : Scope} {pos spos : Pos} {items : List PV} {tst : PV → Bool} {f : PV → PV} {Φ : Out → Prop} (k : Own) (i : Nat) (hn : ns[i]? = some y) (caps : List Nat) (ok : CompOk sc ns scope x caps)
    (hit : It S sc ns b d ρ iter items) (ha : items.all (·.atom) = true) (hsz : items.length ≤ sizeLine)
    (ht : ∀ p ∈ items, TrC S scope (capNs ns x caps) true d (capRo ρ p caps) ifs (tst p))
    (he : ∀ p ∈ items, tst p = true → Ev S scope (capNs ns x caps) true d .R (capRo ρ p caps) elt (f p)) (hf : ∀ p ∈ items, tst p = true → (f p).atom = true)
    (hΦ : Φ (.next (ρ.set i (some (.list ((items.filter tst).map f), k))))) (nd : ns.Nodup) (hk : sc.names.lookup y = some .local) (hl : (py.line == pos.line) = true := by rfl)
    (hv : (scope.names.any fun z => z.1 == y && (z.2 == .local || z.2 == .cell)) = false := by rfl)
    (hs : ∀ env x, foldedSetIterable iter env x = pure x := by intro _ _; rfl) :
    S1 S sc ns b d ρ (.Assign [.Name y py] (.ListComp elt [⟨.Name x px, iter, ifs, 0⟩] scope pos) spos) Φ := by
  intro A base env s rt Q R F hQ
  have ky := F.kindOf' _ hk (by intro h; cases h)
  have hb : env.blockKind = .function := by unfold Env.blockKind; rw [F.kind]; rfl
  refine wpAny_Assign_ListComp_free (fun v => tst (atomOf v)) (fun v y => ∀ h, (tst (atomOf v) = true) → Rp S h y (f (atomOf v)) []) (swaps_local hb ky hl hv) (ok.clos F) ok.cell' ok.kind ok.names' ok.loc ky (by rw [F.kind]; rfl)
    (hit A base env s rt _ R F fun s2 I fp P St it => ?_) (hs env)
  have F2 := F.kp it.kp
  obtain ⟨m, hns⟩ := F2.ns1
  have nI : env.locals ∉ [I] := fun hm => by
    cases hm with
    | head =>
      obtain ⟨o, vs, z1, _, z3, _⟩ := it.itr 0 _ it.st
      obtain ⟨oL, es, ep, eL, dL, _⟩ := hns
      rw [eL] at z1; cases z1; rw [dL] at z3; cases z3
    | tail _ h => cases h
  refine ⟨I, fp, [I], items.length, P, St, m, rfl, it.W, hsz, it.st, fun y hy => let ⟨_, _, o, e⟩ := it.fpOk y hy; Heap.lt_size e, nI, hns, comp_quiet R F it ok ha ht he hf, fun D h' tk ys vs hD _ hpl hlen hP hpr hns' hkk => ?_⟩
  have hout : Rps S h' ys.toList ((items.filter tst).map f) [] := by
    have := paired_out (S := S) (h := h') hpr
    rw [items_of it ha hlen hP] at this
    exact this
  exact hQ _ .next _ hΦ ⟨rfl, comp_store F it nd hn ky hD (by simpa using hpl) hout hns hns' hkk⟩

/-! a container of the frame's own, left alone while a loop runs through it -/
noncomputable def thaw (i : Nat) (Φ : Out → Prop) : Out → Prop
  | .next ρ' => ∃ p, ρ'[i]? = some (some (p, .frz)) ∧ Φ (.next (ρ'.set i (some (p, .mut))))
  | .brk ρ' => ∃ p, ρ'[i]? = some (some (p, .frz)) ∧ Φ (.brk (ρ'.set i (some (p, .mut))))
  | .cont ρ' => ∃ p, ρ'[i]? = some (some (p, .frz)) ∧ Φ (.cont (ρ'.set i (some (p, .mut))))
  | .ret p => Φ (.ret p)

theorem Fm.recolour {h : Heap} {i : Nat} {k k' : Own} (F : Fm S sc ns base env h ρ rt) (hρ : ρ[i]? = some (some (p, k))) (hk : k ≠ .imm) (hk' : k' ≠ .imm) : Fm S sc ns base env h (ρ.set i (some (p, k'))) rt := by
  have li : i < ρ.length := (List.getElem?_eq_some_iff.mp hρ).1
  have getI : (ρ.set i (some (p, k')))[i]? = some (some (p, k')) := by rw [List.getElem?_set_self li]
  refine ⟨F.gd, F.kind, F.kinds, F.glob, F.blt, F.top, F.alive, F.nsB, F.ns1, F.cellB, F.cellInj, F.cellsAll, by rw [List.length_set]; exact F.len, fun j y pj kj ey e => ?_⟩
  have sepOk : ∀ {x : Nat} {fp : List Addr}, (∀ j q k', ρ[j]? = some (some (q, k')) → k' ≠ .imm → j ≠ x → rt j ∉ fp) → ∀ j q k'', (ρ.set i (some (p, k')))[j]? = some (some (q, k'')) → k'' ≠ .imm → j ≠ x → rt j ∉ fp := fun h j q k'' e hk'' hne => by
    by_cases hji : j = i
    · subst hji; exact h j p k hρ hk hne
    · rw [getElem?_set_ne' hji] at e; exact h j q k'' e hk'' hne
  by_cases hji : j = i
  · subst hji
    rw [getI] at e; cases e
    obtain ⟨v, fp, V⟩ := F.vars j y p k ey hρ
    exact ⟨v, fp, V.rd, V.rp, V.loc, fun _ => V.own hk, sepOk V.sep⟩
  · rw [getElem?_set_ne' hji] at e
    obtain ⟨v, fp, V⟩ := F.vars j y pj kj ey e
    exact ⟨v, fp, V.rd, V.rp, V.loc, V.own, sepOk V.sep⟩

theorem S1.frozen {st : Stmt} {Φ : Out → Prop} (i : Nat) (hρ : ρ[i]? = some (some (p, .mut))) (h : S1 S sc ns b d (ρ.set i (some (p, .frz))) st (thaw i Φ)) : S1 S sc ns b d ρ st Φ := by
  intro A base env s rt Q R F hQ
  have li : i < ρ.length := (List.getElem?_eq_some_iff.mp hρ).1
  have getI : (ρ.set i (some (p, Own.frz)))[i]? = some (some (p, Own.frz)) := by rw [List.getElem?_set_self li]
  have ownB : ∀ x, ownOf env (ρ.set i (some (p, Own.frz))) rt x → ownOf env ρ rt x := fun x ho => by
    rcases ho with ho | ho | ⟨j, q, e, hr⟩
    · exact .inl ho
    · exact .inr (.inl ho)
    · by_cases hji : j = i
      · subst hji; rw [getI] at e; cases e
      · rw [getElem?_set_ne' hji] at e; exact .inr (.inr ⟨j, q, e, hr⟩)
  have stB : ∀ {s'}, Stp S b env (ρ.set i (some (p, Own.frz))) rt s s' → Stp S b env ρ rt s s' := fun x => ⟨x.same, fun z o hz => x.keep z o fun ho => hz (ownB z ho), x.alive⟩
  refine h A base env s rt Q R (F.recolour hρ (by intro h; cases h) (by intro h; cases h)) fun o f s' ho oi => ?_
  have nx : ∀ {ρ' p'}, ρ'[i]? = some (some (p', Own.frz)) → NextIs S sc ns b base env (ρ.set i (some (p, Own.frz))) rt s s' ρ' → NextIs S sc ns b base env ρ rt s s' (ρ'.set i (some (p', Own.mut))) := by
    rintro ρ' p' e ⟨x, rt', ro, F'⟩
    have li' : i < ρ'.length := (List.getElem?_eq_some_iff.mp e).1
    refine ⟨stB x, rt', fun j q k e' hk => ?_, F'.recolour e (by intro h; cases h) (by intro h; cases h)⟩
    by_cases hji : j = i
    · subst hji
      rw [List.getElem?_set_self li'] at e'; cases e'
      rcases ro j p' .frz e (by intro h; cases h) with ⟨z1, _⟩ | z1
      · exact .inl ⟨z1, p, hρ⟩
      · exact .inr z1
    · rw [getElem?_set_ne' hji] at e'
      rcases ro j q k e' hk with ⟨z1, p2, z2⟩ | z1
      · rw [getElem?_set_ne' hji] at z2; exact .inl ⟨z1, p2, z2⟩
      · exact .inr z1
  cases o with
  | next ρ' => obtain ⟨p', e, hh⟩ := ho; obtain ⟨rfl, n⟩ := oi; exact hQ _ .next s' hh ⟨rfl, nx e n⟩
  | brk ρ' => obtain ⟨p', e, hh⟩ := ho; obtain ⟨rfl, n⟩ := oi; exact hQ _ .brk s' hh ⟨rfl, nx e n⟩
  | cont ρ' => obtain ⟨p', e, hh⟩ := ho; obtain ⟨rfl, n⟩ := oi; exact hQ _ .cont s' hh ⟨rfl, nx e n⟩
  | ret p' => obtain ⟨v, fp, rfl, x, r⟩ := oi; exact hQ _ (.ret v) s' ho ⟨v, fp, rfl, stB x, r⟩
end
end Mine
open PySem PySem.Calls PyProof.Rows PySem.W
set_option Elab.async false
set_option autoImplicit false
set_option linter.unusedVariables false
namespace Mine
section
variable {S : Sys} {sc : Scope} {ns : List Str} {base : Heap} {env : Env} {s s' s0 : Shared} {ρ : Ro} {rt : Nat → Addr} {b : Bool} {d : Nat} {q : Md} {p p1 p2 p' : PV} {mg mb : Str → Option Value}

theorem bindL_other {kindOf : Str → Option NameKind} {x : Str} : ∀ {bs : List (Str × Value)} {m : Str → Option Value}, (∀ y ∈ bs, y.1 ≠ x) → bindL kindOf bs m x = m x
  | [], _, _ => rfl
  | (n, v) :: r, m, h => by
    unfold bindL
    rw [bindL_other fun y hy => h y (.tail _ hy)]
    split
    · exact if_neg (Ne.symm (h _ (.head _)))
    · rfl
theorem bindC_other {kindOf : Str → Option NameKind} {x : Str} : ∀ {bs : List (Str × Value)} {m : Str → Option Value}, (∀ y ∈ bs, y.1 ≠ x) → bindC kindOf bs m x = m x
  | [], _, _ => rfl
  | (n, v) :: r, m, h => by
    unfold bindC
    rw [bindC_other fun y hy => h y (.tail _ hy)]
    split
    · rfl
    · exact if_neg (Ne.symm (h _ (.head _)))
theorem bindL_get {kindOf : Str → Option NameKind} {x : Str} {v : Value} (hk : kindOf x = some .local) : ∀ {ps : List Str} {vs : List Value} {m : Str → Option Value} {i : Nat}, ps.Nodup → ps[i]? = some x → vs[i]? = some v →
    bindL kindOf (ps.zip vs) m x = some v
  | [], _, _, _, _, h, _ => by simp at h
  | _ :: _, [], _, _, _, _, h => by simp at h
  | n :: ps, w :: vs, m, 0, nd, h1, h2 => by
    simp at h1 h2; subst h1; subst h2
    rw [List.zip_cons_cons]
    unfold bindL
    rw [bindL_other fun y hy e => ?_, if_pos hk]
    · simp
    · have := (List.of_mem_zip hy).1
      rw [e] at this
      exact (List.nodup_cons.mp nd).1 this
  | n :: ps, w :: vs, m, i + 1, nd, h1, h2 => by
    rw [List.zip_cons_cons]
    unfold bindL
    exact bindL_get hk (List.nodup_cons.mp nd).2 (by simpa using h1) (by simpa using h2)
theorem bindC_get {kindOf : Str → Option NameKind} {x : Str} {v : Value} (hk : kindOf x = some .cell) : ∀ {ps : List Str} {vs : List Value} {m : Str → Option Value} {i : Nat}, ps.Nodup → ps[i]? = some x → vs[i]? = some v →
    bindC kindOf (ps.zip vs) m x = some v
  | [], _, _, _, _, h, _ => by simp at h
  | _ :: _, [], _, _, _, _, h => by simp at h
  | n :: ps, w :: vs, m, 0, nd, h1, h2 => by
    simp at h1 h2; subst h1; subst h2
    rw [List.zip_cons_cons]
    unfold bindC
    rw [bindC_other fun y hy e => ?_, if_neg (by rw [hk]; decide)]
    · simp
    · have := (List.of_mem_zip hy).1
      rw [e] at this
      exact (List.nodup_cons.mp nd).1 this
  | n :: ps, w :: vs, m, i + 1, nd, h1, h2 => by
    rw [List.zip_cons_cons]
    unfold bindC
    exact bindC_get hk (List.nodup_cons.mp nd).2 (by simpa using h1) (by simpa using h2)

theorem cellsFrom_acc {x : Str} : ∀ (l : List (Str × NameKind)) (n : Nat) (acc : List (Str × Addr)), (acc.lookup x).isSome = true → ((cellsFrom n l acc).lookup x).isSome = true
  | [], _, _, h => h
  | (y, k) :: l, n, acc, h => by
    unfold cellsFrom
    split
    · refine cellsFrom_acc l _ _ ?_
      rw [List.lookup_cons]
      cases x == y
      · exact h
      · rfl
    · exact cellsFrom_acc l _ _ h
theorem cellsFrom_some {x : Str} : ∀ (l : List (Str × NameKind)) (n : Nat) (acc : List (Str × Addr)), l.lookup x = some .cell → ((cellsFrom n l acc).lookup x).isSome = true
  | [], _, _, h => by cases h
  | (y, k) :: l, n, acc, h => by
    rw [List.lookup_cons] at h
    unfold cellsFrom
    cases hxy : x == y with
    | true =>
      rw [hxy] at h
      cases h
      rw [if_pos (by decide)]
      refine cellsFrom_acc l _ _ ?_
      rw [List.lookup_cons, hxy]; rfl
    | false =>
      rw [hxy] at h
      split
      · exact cellsFrom_some l _ _ h
      · exact cellsFrom_some l _ _ h

theorem CodeRec.top {cd : Value} {qn : Str} {h : Heap} (G0 : Gd S S.hT) (G : Gd S h) (r : S.hT.CodeRec cd qn) : h.CodeRec cd qn := by
  obtain ⟨c, o, vs, t, e1, e2, e3, e4⟩ := r
  refine ⟨c, o, vs, t, e1, G.top c o (fun hc => ?_) e2, e3, e4⟩
  obtain ⟨tb, ht, rfl⟩ := List.mem_map.mp hc
  obtain ⟨ps, e5, e6⟩ := G0.tab tb ht
  rw [e2] at e5; cases e5
  cases e3
  rcases e6 with rfl | ⟨c', rfl, _⟩
  · simp at e4
  · simp [rawInt] at e4

theorem fn_ok0 {a : Addr} {o : Obj} {fd : FuncData} {body : List Stmt} {params rest : List Str} {ps : List PV} (W : S.Ok mg mb) (ho : S.hT.get? a = some o) (hdata : o.data = .func fd) (hcd : S.hT.CodeRec fd.code fd.qualname)
    (hbody : fd.body = .stmts body) (hclo : fd.closure = []) (hg : fd.globals = mainGlobals) (hb : fd.builtins = builtinsNs) (hk : fd.scope.kind = .function)
    (hco : fd.scope.isCoroutine = false) (hgen : fd.scope.isGenerator = false)
    (hbind : ∀ vs, vs.length = params.length → bindArgs fd ⟨vs, []⟩ = pure (params.zip vs)) (hps : ps.length = params.length) (hpk : params.all (locCell fd.scope) = true) (nd : (params ++ rest).Nodup)
    (h : ∀ (A : Around) (env : Env) (base : Heap) (s : Shared) (Q : Flow → Shared → Prop), Room d A → Fm S fd.scope (params ++ rest) base env s.heap (ps.map (fun p => some (p, Own.imm)) ++ List.replicate rest.length none) (fun _ => 0) →
      env.code = fd.code → env.qual = fd.qualname ++ ".<locals>." →
      (∀ f s', OutIs S fd.scope (params ++ rest) b base env (ps.map (fun p => some (p, Own.imm)) ++ List.replicate rest.length none) (fun _ => 0) s f s' (.ret p) → Q f s') → wpAny (model S.prog S.w) A (execs body env) Q No s) : CallOk S b (d + 1) (.ref a) ps p := by
  intro A s vs fp Q R G r hQ
  have hTB : a ∉ S.TB := fun hm => by
    obtain ⟨x, e⟩ := tb_data W.gdT.tab hm
    rw [ho] at e; cases e; cases hdata
  refine wpAny_call ?_
  have lk : ∀ x ∈ params, fd.scope.names.lookup x = some .local ∨ fd.scope.names.lookup x = some .cell := fun x hx => locCell_or (List.all_eq_true.mp hpk x hx)
  refine codeAny_call_cells R.lt (G.top _ _ hTB ho) hdata (W.lim G) (CodeRec.top W.gdT G hcd) hbody (hbind vs (r.length.trans hps)) hclo (fun x hx => ?_) (fun s₁ I => ?_) hco hgen hk
  · rcases lk x.1 (List.of_mem_zip hx).1 with e | e
    · exact .inl e
    · exact .inr ⟨e, cellsFrom_some _ _ _ e⟩
  · generalize hen : callEnvC fd s.heap.objs.size a = env at I ⊢
    have eS : env.scope = fd.scope := by rw [← hen]; rfl
    have eL : env.locals = s.heap.objs.size := by rw [← hen]; rfl
    have eC : env.cells = cellsFrom (s.heap.objs.size + 1) fd.scope.names [] := by rw [← hen]; rfl
    have R' : Room d (A.deeper env) := ⟨R.hd, by have := R.depth; show A.depth + 1 + d < _; (first | lia | omega), by have := R.units; show A.units + 3 + 4 * d + 120 < _; (first | lia | omega)⟩
    have keep := I.toInCall.keep
    have cAbove : ∀ c, isCellOf env c → s.heap.get? c = none := fun c ⟨n, e⟩ => by
      cases hc : s.heap.get? c with
      | none => rfl
      | some o =>
        have h1 := Heap.lt_size hc
        have h2 := I.above n c (mem_of_lookup e)
        rw [eL] at h2
        exact absurd h1 (Nat.lt_asymm h2)
    have F : Fm S fd.scope (params ++ rest) s.heap env s₁.heap (ps.map (fun p => some (p, Own.imm)) ++ List.replicate rest.length none) (fun _ => 0) := by
      refine ⟨G.keeps keep, by rw [eS]; exact hk, fun x => .inl (by unfold Env.kindOf; rw [eS]), ?_, ?_, fun b o e => ?_, fun b o e => ⟨o, keep b o e⟩, ?_, ⟨_, I.toInCall.ns⟩, fun c hc => ?_, fun n n' c e e' => ?_, fun x e => ?_, ?_, ?_⟩
      · rw [← hen]; exact hg
      · rw [← hen]; exact hb
      · exact TabOk.alive G G.top b o e
      · rw [eL]; exact fresh_size _
      · obtain ⟨n, e⟩ := id hc
        exact ⟨cAbove c hc, _, I.cell n c e⟩
      · exact name_of_addr I.apart (mem_of_lookup e) (mem_of_lookup e')
      · rw [eC]; exact cellsFrom_some _ _ _ e
      · simp [hps]
      · intro i x p k ex e
        have hi : i < ps.length := by
          rcases Nat.lt_or_ge i ps.length with h | h
          · exact h
          · rw [List.getElem?_append_right (by simpa using h)] at e
            have := List.mem_of_getElem? e
            rw [List.mem_replicate] at this
            cases this.2
        rw [List.getElem?_append_left (by simpa using hi), List.getElem?_map] at e
        have hi' : i < params.length := hps ▸ hi
        rw [List.getElem?_append_left hi'] at ex
        cases hp : ps[i]? with
        | none => rw [hp] at e; cases e
        | some p0 =>
        rw [hp] at e
        cases e
        obtain ⟨v, f, ev, rv, hf⟩ := r.get hp
        have hx : x ∈ params := List.mem_of_getElem? ex
        have ndp : params.Nodup := (List.nodup_append.mp nd).1
        refine ⟨v, f, ?_, rv.mono fun y hy o e => keep y o e, fun y hy => ?_, fun hk => absurd rfl hk, fun j q k' e' hk' _ => ?_⟩
        · rcases lk x hx with e | e
          · have kx : env.kindOf x = some .local := by unfold Env.kindOf; rw [eS]; exact e
            exact .inl ⟨kx, _, I.toInCall.ns, bindL_get kx ndp ex ev⟩
          · have kx : env.kindOf x = some .cell := by unfold Env.kindOf; rw [eS]; exact e
            have hc := cellsFrom_some _ (s.heap.objs.size + 1) [] e
            rw [← eC] at hc
            obtain ⟨c, hc⟩ := Option.isSome_iff_exists.mp hc
            exact .inr ⟨.inl kx, c, hc, by have := I.cell x c hc; rwa [bindC_get kx ndp ex ev] at this⟩
        · obtain ⟨_, o, ho⟩ := rv.lives y hy
          exact ⟨fun e => (by rw [e, eL, fresh_size] at ho; cases ho), fun hc => (by rw [cAbove y hc] at ho; cases ho)⟩
        · exfalso
          rcases Nat.lt_or_ge j ps.length with h | h
          · rw [List.getElem?_append_left (by simpa using h), List.getElem?_map] at e'
            cases hpj : ps[j]? with
            | none => rw [hpj] at e'; cases e'
            | some z => rw [hpj] at e'; cases e'; exact hk' rfl
          · rw [List.getElem?_append_right (by simpa using h)] at e'
            have := List.mem_of_getElem? e'
            rw [List.mem_replicate] at this
            cases this.2
    refine wpAny_mono (E := No) (h (A.deeper env) env s.heap s₁ (fun f s' => Q (match f with | .ret v => v | _ => .none) s') R' F (by rw [← hen]; rfl) (by rw [← hen]; rfl) fun f s2 oi => ?_) (fun _ _ h => h) fun _ _ h => h.elim
    obtain ⟨v, fp2, rfl, st, g2, r2, hf2⟩ := oi
    refine hQ v s2 fp2 ?_ r2 hf2
    obtain ⟨h1, tk1, e1⟩ := I.toInCall.same
    obtain ⟨h2, tk2, e2⟩ := st.same
    subst e1; subst e2
    refine ⟨h2, tk2, rfl, fun y o _ hb e => ?_, g2⟩
    refine st.keep y o ?_ hb (keep y o e)
    rintro (ho | ho | ⟨i, p, ei, _⟩)
    · rw [ho, eL, fresh_size] at e; cases e
    · rw [cAbove y ho] at e; cases e
    · rcases Nat.lt_or_ge i ps.length with h | h
      · rw [List.getElem?_append_left (by simpa using h), List.getElem?_map] at ei
        cases hpj : ps[i]? with
        | none => rw [hpj] at ei; cases ei
        | some z => rw [hpj] at ei; cases ei
      · rw [List.getElem?_append_right (by simpa using h)] at ei
        have := List.mem_of_getElem? ei
        rw [List.mem_replicate] at this
        cases this.2

theorem fn_ok {a : Addr} {o : Obj} {fd : FuncData} {body : List Stmt} {params rest : List Str} {ps : List PV} (W : S.Ok mg mb) (ho : S.hT.get? a = some o) (hdata : o.data = .func fd) (hcd : S.hT.CodeRec fd.code fd.qualname)
    (hbody : fd.body = .stmts body) (hclo : fd.closure = []) (hg : fd.globals = mainGlobals) (hb : fd.builtins = builtinsNs) (hk : fd.scope.kind = .function)
    (hco : fd.scope.isCoroutine = false) (hgen : fd.scope.isGenerator = false)
    (hbind : ∀ vs, vs.length = params.length → bindArgs fd ⟨vs, []⟩ = pure (params.zip vs)) (hps : ps.length = params.length) (hpk : params.all (locCell fd.scope) = true) (nd : (params ++ rest).Nodup)
    (h : Sx S fd.scope (params ++ rest) b d (ps.map (fun p => some (p, Own.imm)) ++ List.replicate rest.length none) body (fun o => o = .ret p)) : CallOk S b (d + 1) (.ref a) ps p :=
  fn_ok0 W ho hdata hcd hbody hclo hg hb hk hco hgen hbind hps hpk nd fun A env base s Q R F _ _ hQ => h A base env s _ Q R F fun o f s' ho oi => hQ f s' (ho ▸ oi)

theorem vec1 {α : Type} {P : List α → Prop} (h : ∀ a, P [a]) : ∀ vs : List α, vs.length = 1 → P vs := fun vs hv => by
  rcases vs with _ | ⟨a, _ | ⟨c, r⟩⟩
  · cases hv
  · exact h a
  · cases hv
theorem vec2 {α : Type} {P : List α → Prop} (h : ∀ a c, P [a, c]) : ∀ vs : List α, vs.length = 2 → P vs := fun vs hv => by
  rcases vs with _ | ⟨a, r⟩
  · cases hv
  · exact vec1 (P := fun r => P (a :: r)) (h a) r (Nat.succ.inj hv)
theorem vec3 {α : Type} {P : List α → Prop} (h : ∀ a c e, P [a, c, e]) : ∀ vs : List α, vs.length = 3 → P vs := fun vs hv => by
  rcases vs with _ | ⟨a, r⟩
  · cases hv
  · exact vec2 (P := fun r => P (a :: r)) (h a) r (Nat.succ.inj hv)
end
end Mine
open PySem PySem.Calls PyProof.Rows PySem.W
set_option Elab.async false
set_option autoImplicit false
namespace Mine
open PySem.Sre (M)

noncomputable def c1 : Array Nat := #[14, 4, 0, 1, 1, 6, 1, 16, 46, 1]
noncomputable def c2 : Array Nat := #[14, 9, 4, 1, 2, 16, 10, 16, 13, 0, 7, 7, 16, 13, 16, 10, 15, 18, 5, 16, 10, 15, 13, 11, 16, 13, 5, 5, 0, 16, 10, 1, 15, 2, 0, 1]

noncomputable def mk (c t : Array Nat) (pc s : Nat) (h : Nat) (first : Bool) (sn : Sre.Seen) : M :=
  { code := c, text := t, lim := t.size, start := s, lastStart := t.size, pc := pc, pos := s, handed := h, outermost := first, marks := #[],
    frames := [{ wait := .nextStart, pc := pc, pos := s, outermost := first }], weight := 1, seen := sn }

theorem runFor_add : ∀ (a b : Nat) (m : M), M.runFor (a + b) m = M.runFor b (M.runFor a m)
  | 0, b, m => by rw [Nat.zero_add]; rfl
  | a + 1, b, m => by
    rw [Nat.add_right_comm]
    show (if m.outcome.isSome then m else M.runFor (a + b) m.step) = M.runFor b (if m.outcome.isSome then m else M.runFor a m.step)
    split
    · rename_i h
      cases b with
      | zero => rfl
      | succ b => show m = (if m.outcome.isSome then m else _); rw [if_pos h]
    · exact runFor_add a b _

theorem runFor_succ {n : Nat} {m m' : M} (h : m.outcome = none) (e : m.step = m') : M.runFor (n + 1) m = M.runFor n m' := by
  show (if m.outcome.isSome then m else M.runFor n m.step) = _
  rw [h, e]; rfl

noncomputable def EndsIn (n : Nat) (m : M) (r : Option (Nat × Nat)) : Prop := ∃ k, k ≤ n ∧ match r with
  | some (s, e) => (M.runFor k m).outcome = some .matched ∧ (M.runFor k m).start = s ∧ (M.runFor k m).handed = e
  | none => (M.runFor k m).outcome = some .failed

theorem c1_at (t : Array Nat) (s h : Nat) (f : Bool) (sn : Sre.Seen) : M.step (mk c1 t 5 s h f sn) =
    (if (s == 0 || t.getD (s - 1) 0 == 10) = true then { mk c1 t 5 s h f ((sn.add 6).add (43 + 1)) with pc := 7 } else { mk c1 t 5 s h f ((sn.add 6).add (43 + 1)) with answer := some false }) := by
  rfl
theorem step_exec (m : M) (h1 : m.outcome = none) (h2 : m.answer = none) (h3 : m.pc < m.code.size) : m.step = m.exec := by
  unfold M.step
  rw [h1, h2]
  simp only [Option.isSome_none, Bool.false_eq_true, if_false]
  rw [if_pos h3]
theorem exec_lit_no (m : M) (sn : Sre.Seen) (hop : Sre.ops[m.word 0]? = some .LITERAL) (hl : m.pos < m.lim) (ha : Sre.accepts m.code m.pc (m.text.getD m.pos 0) (m.seen.add (m.word 0)) = .ok (false, sn)) :
    m.exec = { m with seen := sn, answer := some false } := by
  unfold M.exec
  rw [hop]
  simp only
  rw [if_neg (by (first | lia | omega)), ha]
  rfl
theorem exec_lit_yes (m : M) (sn : Sre.Seen) (hop : Sre.ops[m.word 0]? = some .LITERAL) (hl : m.pos < m.lim) (ha : Sre.accepts m.code m.pc (m.text.getD m.pos 0) (m.seen.add (m.word 0)) = .ok (true, sn)) :
    m.exec = { m with seen := sn, pc := m.pc + Sre.itemWidth m.code m.pc, pos := m.pos + 1 } := by
  unfold M.exec
  rw [hop]
  simp only
  rw [if_neg (by (first | lia | omega)), ha]
theorem exec_lit_end (m : M) (hop : Sre.ops[m.word 0]? = some .LITERAL) (hl : m.lim ≤ m.pos) :
    m.exec = { m with seen := m.seen.add (m.word 0), answer := some false } := by
  unfold M.exec
  rw [hop]
  simp only
  rw [if_pos (by (first | lia | omega))]
  rfl
theorem c1_lit (t : Array Nat) (s h : Nat) (f : Bool) (sn : Sre.Seen) (hs : s < t.size) : M.step { mk c1 t 5 s h f sn with pc := 7 } =
    (if (t.getD s 0 == 46) = true then { mk c1 t 5 s h f (sn.add 16) with pc := 9, pos := s + 1 } else { mk c1 t 5 s h f (sn.add 16) with answer := some false, pc := 7 }) := by
  rw [step_exec _ rfl rfl (by decide : 7 < c1.size)]
  cases hb : (t.getD s 0 == 46) with
  | false => rw [exec_lit_no _ (sn.add 16) rfl hs (by show Except.ok (t.getD s 0 == 46, sn.add 16) = _; rw [hb])]; rfl
  | true => rw [exec_lit_yes _ (sn.add 16) rfl hs (by show Except.ok (t.getD s 0 == 46, sn.add 16) = _; rw [hb])]; rfl
theorem c1_ok (t : Array Nat) (s h : Nat) (f : Bool) (sn : Sre.Seen) : M.step { mk c1 t 5 s h f sn with pc := 9, pos := s + 1 } =
    { mk c1 t 5 s h f (sn.add 1) with pc := 9, pos := s + 1, handed := s + 1, answer := some true } := by
  show (if (f && (false || false)) = true then _ else _) = _
  rw [Bool.or_false, Bool.and_false]; rfl
theorem c_no (c t : Array Nat) (pc pc' s h : Nat) (f : Bool) (sn : Sre.Seen) (hc : Sre.M.hasFirstSet (mk c t pc s h f sn) = false) (hs : s < t.size) :
    M.step { mk c t pc s h f sn with answer := some false, pc := pc' } = mk c t pc (s + 1) (s + 1) false sn := by
  show (if s < t.size then _ else _) = _
  rw [if_pos hs]
  show (if (!(Sre.M.hasFirstSet (mk c t pc s h f sn))) = true then _ else _) = _
  rw [hc]; rfl
noncomputable def Hit1 (t : Array Nat) (s : Nat) : Prop := (s = 0 ∨ t.getD (s - 1) 0 = 10) ∧ t.getD s 0 = 46

theorem c1_skip (t : Array Nat) (s h : Nat) (f : Bool) (sn : Sre.Seen) (hs : s < t.size) (hn : ¬ Hit1 t s) :
    ∃ k sn', k ≤ 3 ∧ M.runFor k (mk c1 t 5 s h f sn) = mk c1 t 5 (s + 1) (s + 1) false sn' := by
  by_cases h1 : s = 0 ∨ t.getD (s - 1) 0 = 10
  · have h2 : ¬ t.getD s 0 = 46 := fun e => hn ⟨h1, e⟩
    have e1 : (s == 0 || t.getD (s - 1) 0 == 10) = true := by simpa using h1
    have e2 : (t.getD s 0 == 46) = false := by simpa using h2
    have a1 := c1_at t s h f sn
    rw [if_pos e1] at a1
    have a2 := c1_lit t s h f ((sn.add 6).add (43 + 1)) hs
    rw [if_neg (by rw [e2]; decide)] at a2
    exact ⟨3, ((sn.add 6).add (43 + 1)).add 16, Nat.le_refl _, (runFor_succ (n := 2) rfl a1).trans ((runFor_succ (n := 1) rfl a2).trans (runFor_succ (n := 0) rfl (c_no c1 t 5 7 s h f _ rfl hs)))⟩
  · have e1 : ¬ (s == 0 || t.getD (s - 1) 0 == 10) = true := by simpa using h1
    have a1 := c1_at t s h f sn
    rw [if_neg e1] at a1
    exact ⟨2, (sn.add 6).add (43 + 1), by (first | lia | omega), (runFor_succ (n := 1) rfl a1).trans (runFor_succ (n := 0) rfl (c_no c1 t 5 5 s h f _ rfl hs))⟩

theorem c1_hit (t : Array Nat) (s h : Nat) (f : Bool) (sn : Sre.Seen) (hs : s < t.size) (hn : Hit1 t s) : EndsIn 5 (mk c1 t 5 s h f sn) (some (s, s + 1)) := by
  have e1 : (s == 0 || t.getD (s - 1) 0 == 10) = true := by simpa using hn.1
  have e2 : (t.getD s 0 == 46) = true := by simpa using hn.2
  have a1 := c1_at t s h f sn
  rw [if_pos e1] at a1
  have a2 := c1_lit t s h f ((sn.add 6).add (43 + 1)) hs
  rw [if_pos e2] at a2
  refine ⟨5, by decide, ?_⟩
  rw [runFor_succ rfl a1, runFor_succ rfl a2, runFor_succ rfl (c1_ok t s h f _)]
  exact ⟨rfl, rfl, rfl⟩

theorem c1_end (t : Array Nat) (h : Nat) (f : Bool) (sn : Sre.Seen) : EndsIn 5 (mk c1 t 5 t.size h f sn) none := by
  have nlt : ¬ t.size < t.size := Nat.lt_irrefl _
  have fin : ∀ pc' sn', M.runFor 2 { mk c1 t 5 t.size h f sn' with answer := some false, pc := pc' } = { mk c1 t 5 t.size h f sn' with answer := some false, frames := [], weight := 0, outcome := some .failed } := fun pc' sn' => by
    have e : M.step { mk c1 t 5 t.size h f sn' with answer := some false, pc := pc' } = { mk c1 t 5 t.size h f sn' with answer := some false, frames := [], weight := 0 } := by
      show (if t.size < t.size then _ else _) = _
      rw [if_neg nlt]; rfl
    rw [runFor_succ rfl e]; rfl
  have a1 := c1_at t t.size h f sn
  by_cases e1 : (t.size == 0 || t.getD (t.size - 1) 0 == 10) = true
  · rw [if_pos e1] at a1
    have a2 : M.step { mk c1 t 5 t.size h f ((sn.add 6).add (43 + 1)) with pc := 7 } = { mk c1 t 5 t.size h f (((sn.add 6).add (43 + 1)).add 16) with answer := some false, pc := 7 } := by
      rw [step_exec _ rfl rfl (by decide : 7 < c1.size), exec_lit_end _ rfl (Nat.le_refl _)]; rfl
    refine ⟨4, by decide, ?_⟩
    show (M.runFor (2 + 1 + 1) _).outcome = _
    rw [runFor_succ rfl a1, runFor_succ rfl a2, fin]
  · rw [if_neg e1] at a1
    refine ⟨3, by decide, ?_⟩
    show (M.runFor (2 + 1) _).outcome = _
    rw [runFor_succ rfl a1]
    exact congrArg M.outcome (fin 5 _)

theorem EndsIn.after {n k : Nat} {m m' : M} {r : Option (Nat × Nat)} (h : EndsIn n m' r) (e : M.runFor k m = m') : EndsIn (n + k) m r := by
  obtain ⟨j, hj, h⟩ := h
  refine ⟨k + j, by (first | lia | omega), ?_⟩
  rw [runFor_add, e]; exact h
theorem EndsIn.mono {n n' : Nat} {m : M} {r : Option (Nat × Nat)} (h : EndsIn n m r) (hn : n ≤ n') : EndsIn n' m r := let ⟨k, a, b⟩ := h; ⟨k, by (first | lia | omega), b⟩
noncomputable def Found (hit : Nat → Prop) (len : Nat → Nat) (size pos : Nat) : Option (Nat × Nat) → Prop
  | some (s, e) => pos ≤ s ∧ s < size ∧ (∀ i, pos ≤ i → i < s → ¬ hit i) ∧ hit s ∧ e = s + len s
  | none => ∀ i, pos ≤ i → i < size → ¬ hit i

theorem c1_find (t : Array Nat) : ∀ (n s h : Nat) (f : Bool) (sn : Sre.Seen) (r : Option (Nat × Nat)), s + n = t.size → Found (Hit1 t) (fun _ => 1) t.size s r → EndsIn (3 * n + 5) (mk c1 t 5 s h f sn) r
  | 0, s, h, f, sn, r, e, hf => by
    have : s = t.size := by (first | lia | omega)
    subst this
    cases r with
    | none => exact (c1_end t h f sn).mono (by (first | lia | omega))
    | some x => obtain ⟨h1, h2, _⟩ := hf; (first | lia | omega)
  | n + 1, s, h, f, sn, r, e, hf => by
    have hs : s < t.size := by (first | lia | omega)
    by_cases hh : Hit1 t s
    · cases r with
      | none => exact absurd hh (hf s (Nat.le_refl _) hs)
      | some x =>
        obtain ⟨a, b⟩ := x
        obtain ⟨h1, h2, h3, h4, h5⟩ := hf
        have : a = s := by
          rcases Nat.lt_or_eq_of_le h1 with h | h
          · exact absurd hh (h3 s (Nat.le_refl _) h)
          · exact h.symm
        subst this; subst h5
        exact (c1_hit t a h f sn hs hh).mono (by (first | lia | omega))
    · obtain ⟨k, sn', hk, e'⟩ := c1_skip t s h f sn hs hh
      refine ((c1_find t n (s + 1) (s + 1) false sn' r (by (first | lia | omega)) ?_).after e').mono (by (first | lia | omega))
      cases r with
      | none => exact fun i h1 h2 => hf i (by (first | lia | omega)) h2
      | some x =>
        obtain ⟨a, b⟩ := x
        obtain ⟨h1, h2, h3, h4, h5⟩ := hf
        have : s ≠ a := fun e => hh (e ▸ h4)
        exact ⟨by (first | lia | omega), h2, fun i h1 h2 => h3 i (by (first | lia | omega)) h2, h4, h5⟩

theorem c1_search (t : Array Nat) (pos : Nat) (r : Option (Nat × Nat)) (hp : pos ≤ t.size) (hf : Found (Hit1 t) (fun _ => 1) t.size pos r) : EndsIn (3 * t.size + 5) (Sre.forSearch c1 t 0 pos t.size false) r := by
  by_cases h : pos < t.size
  · have e : Sre.forSearch c1 t 0 pos t.size false = mk c1 t 5 pos pos true (({} : Sre.Seen).add 14) := by
      have hc : ¬ (pos > t.size ∨ t.size - pos < 1) := by (first | lia | omega)
      show (if pos > t.size || decide (t.size - pos < 1) then _ else _) = _
      rw [if_neg (by simpa using hc)]
      rfl
    rw [e]
    exact (c1_find t (t.size - pos) pos pos true _ r (by (first | lia | omega)) hf).mono (by (first | lia | omega))
  · have e : pos = t.size := by (first | lia | omega)
    subst e
    cases r with
    | some x => obtain ⟨h1, h2, _⟩ := hf; (first | lia | omega)
    | none =>
      refine ⟨1, by (first | lia | omega), ?_⟩
      have e : (Sre.forSearch c1 t 0 t.size t.size false) = { mk c1 t 5 t.size t.size true (({} : Sre.Seen).add 14) with lastStart := 0, frames := [], weight := 0, answer := some false } := by
        show (if (decide (t.size > t.size) || decide (t.size - t.size < 1)) = true then _ else _) = _
        rw [if_pos (by simp)]
        rfl
      rw [e]; rfl
end Mine
open PySem PySem.Calls PyProof.Rows PySem.W
set_option Elab.async false
set_option autoImplicit false
namespace Mine
open PySem.Sre (M)

noncomputable def mm (t : Array Nat) (s pc pos h : Nat) (o : Bool) (fr : List Sre.Frame) (wt : Nat) (ans : Option Bool) (sn : Sre.Seen) : M :=
  { code := c2, text := t, lim := t.size, start := s, lastStart := t.size, pc := pc, pos := pos, handed := h, outermost := o, marks := #[], frames := fr, weight := wt, answer := ans, seen := sn }

noncomputable def f0 (s : Nat) : Sre.Frame := { wait := .nextStart, pc := 10, pos := s, outermost := true }
noncomputable def fb (pc s : Nat) : Sre.Frame := { wait := .nextBranch, pc := pc, pos := s, outermost := true, kept := { lastmark := -1, lastindex := -1, whole := false, marks := #[] } }
noncomputable def fn (s : Nat) : Sre.Frame := { wait := .lookNot, pc := 26, pos := s, outermost := true, kept := { lastmark := -1, lastindex := -1, whole := false, marks := #[] } }

section
variable (t : Array Nat) (s h : Nat) (sn : Sre.Seen)

theorem b0 : M.step (mm t s 10 s h true [f0 s] 1 none sn) = mm t s 12 s s true [fb 11 s, f0 s] 2 none (sn.add 7) := rfl
theorem lit_yes {pc pos h : Nat} {o : Bool} {fr : List Sre.Frame} {wt c : Nat} (hpc : pc < c2.size) (hop : Sre.ops[c2.getD (pc + 0) 0]? = some .LITERAL) (hp : pos < t.size) (hc : t.getD pos 0 = c)
    (ha : Sre.accepts c2 pc c (sn.add (c2.getD (pc + 0) 0)) = .ok (true, sn.add (c2.getD (pc + 0) 0))) (hw : Sre.itemWidth c2 pc = 2) :
    M.step (mm t s pc pos h o fr wt none sn) = mm t s (pc + 2) (pos + 1) h o fr wt none (sn.add (c2.getD (pc + 0) 0)) := by
  rw [step_exec _ rfl rfl hpc, exec_lit_yes (mm t s pc pos h o fr wt none sn) (sn.add (c2.getD (pc + 0) 0)) hop hp (by show Sre.accepts c2 pc (t.getD pos 0) _ = _; rw [hc]; exact ha)]
  show ({ code := c2, text := t, lim := t.size, start := s, lastStart := t.size, pc := pc + Sre.itemWidth c2 pc, pos := pos + 1, handed := h, outermost := o, marks := #[], frames := fr, weight := wt, answer := none, seen := sn.add (c2.getD (pc + 0) 0) } : M) = _
  rw [hw]; rfl
theorem lit_no {pc pos h : Nat} {o : Bool} {fr : List Sre.Frame} {wt : Nat} (hpc : pc < c2.size) (hop : Sre.ops[c2.getD (pc + 0) 0]? = some .LITERAL)
    (ha : pos < t.size → Sre.accepts c2 pc (t.getD pos 0) (sn.add (c2.getD (pc + 0) 0)) = .ok (false, sn.add (c2.getD (pc + 0) 0))) :
    M.step (mm t s pc pos h o fr wt none sn) = mm t s pc pos h o fr wt (some false) (sn.add (c2.getD (pc + 0) 0)) := by
  by_cases hp : pos < t.size
  · rw [step_exec _ rfl rfl hpc, exec_lit_no (mm t s pc pos h o fr wt none sn) (sn.add (c2.getD (pc + 0) 0)) hop hp (ha hp)]; rfl
  · rw [step_exec _ rfl rfl hpc, exec_lit_end (mm t s pc pos h o fr wt none sn) hop (by show t.size ≤ pos; (first | lia | omega))]; rfl
theorem jump {pc pos h to : Nat} {o : Bool} {fr : List Sre.Frame} {wt : Nat} (hpc : pc < c2.size) (hop : Sre.ops[c2.getD (pc + 0) 0]? = some .JUMP) (ht : pc + 1 + c2.getD (pc + 1) 0 = to) :
    M.step (mm t s pc pos h o fr wt none sn) = mm t s to pos h o fr wt none (sn.add (c2.getD (pc + 0) 0)) := by
  rw [step_exec _ rfl rfl hpc]
  unfold M.exec
  rw [show Sre.ops[M.word (mm t s pc pos h o fr wt none sn) 0]? = some .JUMP from hop]
  subst ht; rfl
theorem succ35 {pos h : Nat} {fr : List Sre.Frame} {wt : Nat} : M.step (mm t s 35 pos h true fr wt none sn) = mm t s 35 pos pos true fr wt (some true) (sn.add 1) := rfl
theorem done_yes {pc s' pos h : Nat} : (M.runFor 3 (mm t s pc pos h true [fb s' s, f0 s] 2 (some true) sn)).outcome = some .matched ∧ (M.runFor 3 (mm t s pc pos h true [fb s' s, f0 s] 2 (some true) sn)).start = s ∧ (M.runFor 3 (mm t s pc pos h true [fb s' s, f0 s] 2 (some true) sn)).handed = h := ⟨rfl, rfl, rfl⟩
theorem b1 {pc pos h : Nat} : M.step (mm t s pc pos h true [fb 11 s, f0 s] 2 (some false) sn) = mm t s 19 s s true [fb 18 s, f0 s] 2 none sn := rfl
theorem b2 {pc pos h : Nat} : M.step (mm t s pc pos h true [fb 18 s, f0 s] 2 (some false) sn) = mm t s 24 s s true [fb 23 s, f0 s] 2 none sn := rfl
theorem an {pos h : Nat} : M.step (mm t s 26 pos h true [fb 23 s, f0 s] 2 none sn) = mm t s 29 pos pos false [fn pos, fb 23 s, f0 s] 3 none (sn.add 5) := by
  rw [step_exec _ rfl rfl (by decide : 26 < c2.size)]
  unfold M.exec
  show (if pos < 0 then _ else _) = _
  rw [if_neg (Nat.not_lt_zero _)]
  rfl
theorem an_no {pc pos pos' h : Nat} : M.step (mm t s pc pos' h false [fn pos, fb 23 s, f0 s] 3 (some false) sn) = mm t s 32 pos h true [fb 23 s, f0 s] 2 none sn := rfl

noncomputable def Hit2 (t : Array Nat) (s : Nat) : Prop := t.getD s 0 = 10 ∨ t.getD s 0 = 13
open Classical in
noncomputable def len2 (t : Array Nat) (s : Nat) : Nat := if t.getD s 0 = 13 ∧ s + 1 < t.size ∧ t.getD (s + 1) 0 = 10 then 2 else 1

theorem acc13 {pc : Nat} {c : Nat} {sn : Sre.Seen} (h : pc = 12 ∨ pc = 24) : Sre.accepts c2 pc c sn = .ok (c == 13, sn) := by
  rcases h with rfl | rfl <;> rfl
theorem acc10 {pc : Nat} {c : Nat} {sn : Sre.Seen} (h : pc = 14 ∨ pc = 19 ∨ pc = 29) : Sre.accepts c2 pc c sn = .ok (c == 10, sn) := by
  rcases h with rfl | rfl | rfl <;> rfl

theorem c2_hit (hs : s < t.size) (hh : Hit2 t s) : EndsIn 20 (mm t s 10 s h true [f0 s] 1 none sn) (some (s, s + len2 t s)) := by
  by_cases h13 : t.getD s 0 = 13
  · by_cases h10 : s + 1 < t.size ∧ t.getD (s + 1) 0 = 10
    · have el : len2 t s = 2 := by unfold len2; rw [if_pos ⟨h13, h10⟩]
      rw [el]
      have a1 := lit_yes t s (sn.add 7) (pc := 12) (pos := s) (h := s) (o := true) (fr := [fb 11 s, f0 s]) (wt := 2) (by decide) rfl hs h13 rfl rfl
      have a2 := lit_yes t s ((sn.add 7).add (c2.getD (12 + 0) 0)) (pc := 14) (pos := s + 1) (h := s) (o := true) (fr := [fb 11 s, f0 s]) (wt := 2) (by decide) rfl h10.1 h10.2 rfl rfl
      have a3 := jump t s (((sn.add 7).add (c2.getD (12 + 0) 0)).add (c2.getD (14 + 0) 0)) (pc := 16) (pos := s + 2) (h := s) (to := 35) (o := true) (fr := [fb 11 s, f0 s]) (wt := 2) (by decide) rfl rfl
      refine ⟨3 + 1 + 1 + 1 + 1 + 1, by decide, ?_⟩
      simp only
      rw [runFor_succ rfl (b0 t s h sn), runFor_succ rfl a1, runFor_succ rfl a2, runFor_succ rfl a3, runFor_succ rfl (succ35 t s _)]
      exact done_yes t s _
    · have el : len2 t s = 1 := by unfold len2; rw [if_neg fun x => h10 x.2]
      rw [el]
      have n10 : (t.getD s 0 == 10) = false := by rw [h13]; decide
      have no : ∀ {sn : Sre.Seen} {pc : Nat}, (pc = 14 ∨ pc = 19 ∨ pc = 29) → s + 1 < t.size → Sre.accepts c2 pc (t.getD (s + 1) 0) sn = .ok (false, sn) := fun hpc hlt => by
        rw [acc10 hpc]
        have : (t.getD (s + 1) 0 == 10) = false := by simpa using fun e => h10 ⟨hlt, e⟩
        rw [this]
      have a1 := lit_yes t s (sn.add 7) (pc := 12) (pos := s) (h := s) (o := true) (fr := [fb 11 s, f0 s]) (wt := 2) (by decide) rfl hs h13 rfl rfl
      have a2 := lit_no t s ((sn.add 7).add (c2.getD (12 + 0) 0)) (pc := 14) (pos := s + 1) (h := s) (o := true) (fr := [fb 11 s, f0 s]) (wt := 2) (by decide) rfl (no (.inl rfl))
      generalize ((sn.add 7).add (c2.getD (12 + 0) 0)) = sn1 at a1 a2
      generalize (sn1.add (c2.getD (14 + 0) 0)) = sn2 at a2
      have a3 := lit_no t s sn2 (pc := 19) (pos := s) (h := s) (o := true) (fr := [fb 18 s, f0 s]) (wt := 2) (by decide) rfl (fun _ => by rw [acc10 (.inr (.inl rfl)), n10])
      generalize (sn2.add (c2.getD (19 + 0) 0)) = sn3 at a3
      have a4 := lit_yes t s sn3 (pc := 24) (pos := s) (h := s) (o := true) (fr := [fb 23 s, f0 s]) (wt := 2) (by decide) rfl hs h13 rfl rfl
      generalize (sn3.add (c2.getD (24 + 0) 0)) = sn4 at a4
      have a5 := lit_no t s (sn4.add 5) (pc := 29) (pos := s + 1) (h := s + 1) (o := false) (fr := [fn (s + 1), fb 23 s, f0 s]) (wt := 3) (by decide) rfl (no (.inr (.inr rfl)))
      generalize ((sn4.add 5).add (c2.getD (29 + 0) 0)) = sn5 at a5
      have a6 := jump t s sn5 (pc := 32) (pos := s + 1) (h := s + 1) (to := 35) (o := true) (fr := [fb 23 s, f0 s]) (wt := 2) (by decide) rfl rfl
      refine ⟨3 + 1 + 1 + 1 + 1 + 1 + 1 + 1 + 1 + 1 + 1 + 1 + 1, by decide, ?_⟩
      simp only
      rw [runFor_succ rfl (b0 t s h sn), runFor_succ rfl a1, runFor_succ rfl a2, runFor_succ rfl (b1 t s _), runFor_succ rfl a3, runFor_succ rfl (b2 t s _), runFor_succ rfl a4, runFor_succ rfl (an t s _), runFor_succ rfl a5,
        runFor_succ rfl (an_no t s _), runFor_succ rfl a6, runFor_succ rfl (succ35 t s _)]
      exact done_yes t s _
  · have h10 : t.getD s 0 = 10 := hh.resolve_right h13
    have el : len2 t s = 1 := by unfold len2; rw [if_neg fun x => h13 x.1]
    rw [el]
    have a1 := lit_no t s (sn.add 7) (pc := 12) (pos := s) (h := s) (o := true) (fr := [fb 11 s, f0 s]) (wt := 2) (by decide) rfl (fun _ => by rw [acc13 (.inl rfl), h10]; rfl)
    generalize ((sn.add 7).add (c2.getD (12 + 0) 0)) = sn1 at a1
    have a2 := lit_yes t s sn1 (pc := 19) (pos := s) (h := s) (o := true) (fr := [fb 18 s, f0 s]) (wt := 2) (by decide) rfl hs h10 rfl rfl
    generalize (sn1.add (c2.getD (19 + 0) 0)) = sn2 at a2
    have a3 := jump t s sn2 (pc := 21) (pos := s + 1) (h := s) (to := 35) (o := true) (fr := [fb 18 s, f0 s]) (wt := 2) (by decide) rfl rfl
    refine ⟨3 + 1 + 1 + 1 + 1 + 1 + 1, by decide, ?_⟩
    simp only
    rw [runFor_succ rfl (b0 t s h sn), runFor_succ rfl a1, runFor_succ rfl (b1 t s _), runFor_succ rfl a2, runFor_succ rfl a3, runFor_succ rfl (succ35 t s _)]
    exact done_yes t s _

theorem inSet2 (c : Nat) (sn : Sre.Seen) : ∃ sn', Sre.inSet c2 c c2.size 5 true sn = .ok (c == 10 || c == 13, sn') := by
  cases h1 : c == 10 with
  | true =>
    refine ⟨sn.add 16, ?_⟩
    show (if (c == 10) = true then _ else _) = _
    rw [if_pos h1]; rfl
  | false =>
    cases h2 : c == 13 with
    | true =>
      refine ⟨(sn.add 16).add 16, ?_⟩
      show (if (c == 10) = true then _ else (if (c == 13) = true then _ else _)) = _
      rw [if_neg (by rw [h1]; decide), if_pos h2]; rfl
    | false =>
      refine ⟨((sn.add 16).add 16).add 0, ?_⟩
      show (if (c == 10) = true then _ else (if (c == 13) = true then _ else _)) = _
      rw [if_neg (by rw [h1]; decide), if_neg (by rw [h2]; decide)]; rfl

theorem admitted2 (m : M) (hc : m.code = c2) (ht : m.text = t) (hl : m.lim = t.size) : ∀ (fuel s : Nat) (sn : Sre.Seen) (r : Option (Nat × Nat)), s + fuel = t.size + 1 → Found (Hit2 t) (len2 t) t.size s r →
    ∃ sn', Sre.M.admitted m fuel s sn = .ok (r.map (·.1), sn')
  | 0, s, sn, r, e, hf => by
    cases r with
    | none => exact ⟨sn, rfl⟩
    | some x => obtain ⟨h1, h2, _⟩ := hf; (first | lia | omega)
  | fuel + 1, s, sn, r, e, hf => by
    unfold Sre.M.admitted
    rw [hl]
    by_cases hs : s ≥ t.size
    · rw [if_pos hs]
      cases r with
      | none => exact ⟨sn, rfl⟩
      | some x => obtain ⟨h1, h2, _⟩ := hf; (first | lia | omega)
    · rw [if_neg hs]
      obtain ⟨sn', e'⟩ := inSet2 (t.getD s 0) sn
      rw [hc, ht, e']
      by_cases hh : Hit2 t s
      · have : (t.getD s 0 == 10 || t.getD s 0 == 13) = true := by simpa [Hit2] using hh
        rw [this]
        cases r with
        | none => exact absurd hh (hf s (Nat.le_refl _) (by (first | lia | omega)))
        | some x =>
          obtain ⟨a, b⟩ := x
          obtain ⟨h1, h2, h3, h4, h5⟩ := hf
          have : a = s := by
            rcases Nat.lt_or_eq_of_le h1 with h | h
            · exact absurd hh (h3 s (Nat.le_refl _) h)
            · exact h.symm
          subst this
          exact ⟨sn', rfl⟩
      · have : (t.getD s 0 == 10 || t.getD s 0 == 13) = false := by
          cases hb : (t.getD s 0 == 10 || t.getD s 0 == 13) with
          | false => rfl
          | true => exact absurd (by simpa [Hit2] using hb) hh
        rw [this]
        refine admitted2 m hc ht hl fuel (s + 1) sn' r (by (first | lia | omega)) ?_
        cases r with
        | none => exact fun i h1 h2 => hf i (by (first | lia | omega)) h2
        | some x =>
          obtain ⟨a, b⟩ := x
          obtain ⟨h1, h2, h3, h4, h5⟩ := hf
          have : s ≠ a := fun e => hh (e ▸ h4)
          exact ⟨by (first | lia | omega), h2, fun i h1 h2 => h3 i (by (first | lia | omega)) h2, h4, h5⟩

theorem attemptFrom_some (m : M) (a s : Nat) (f : Bool) (sn : Sre.Seen) (h1 : m.hasFirstSet = true) (h2 : Sre.M.admitted m (m.lim + 1 - s) s m.seen = .ok (some a, sn)) :
    m.attemptFrom s f = Sre.M.attemptAt { m with mustAdvance := false, seen := sn } a f := by
  unfold Sre.M.attemptFrom
  rw [h1, h2]; rfl
theorem attemptFrom_none (m : M) (s : Nat) (f : Bool) (sn : Sre.Seen) (h1 : m.hasFirstSet = true) (h2 : Sre.M.admitted m (m.lim + 1 - s) s m.seen = .ok (none, sn)) :
    m.attemptFrom s f = { m with seen := sn, answer := some false } := by
  unfold Sre.M.attemptFrom
  rw [h1, h2]; rfl

theorem c2_search (pos : Nat) (r : Option (Nat × Nat)) (hp : pos ≤ t.size) (hf : Found (Hit2 t) (len2 t) t.size pos r) : EndsIn 20 (Sre.forSearch c2 t 0 pos t.size false) r := by
  by_cases h : pos < t.size
  · have e : Sre.forSearch c2 t 0 pos t.size false = Sre.M.attemptFrom { mm t pos 10 pos pos true [] 0 none (({} : Sre.Seen).add 14) with lastStart := t.size } pos true := by
      have hc : ¬ (pos > t.size ∨ t.size - pos < 1) := by (first | lia | omega)
      show (if pos > t.size || decide (t.size - pos < 1) then _ else _) = _
      rw [if_neg (by simpa using hc)]
      rfl
    obtain ⟨sn', e'⟩ := admitted2 t { mm t pos 10 pos pos true [] 0 none (({} : Sre.Seen).add 14) with lastStart := t.size } rfl rfl rfl (t.size + 1 - pos) pos (({} : Sre.Seen).add 14) r (by (first | lia | omega)) hf
    rw [e]
    cases r with
    | none =>
      rw [attemptFrom_none _ _ _ sn' rfl e']
      exact ⟨1, by (first | lia | omega), rfl⟩
    | some x =>
      obtain ⟨a, b⟩ := x
      obtain ⟨h1, h2, h3, h4, h5⟩ := hf
      rw [attemptFrom_some _ a _ _ sn' rfl e', h5]
      exact c2_hit t a a sn' h2 h4
  · have e : pos = t.size := by (first | lia | omega)
    subst e
    cases r with
    | some x => obtain ⟨h1, h2, _⟩ := hf; (first | lia | omega)
    | none =>
      refine ⟨1, by (first | lia | omega), ?_⟩
      have e : (Sre.forSearch c2 t 0 t.size t.size false) = { mm t t.size 10 t.size t.size true [] 0 (some false) (({} : Sre.Seen).add 14) with lastStart := 0 } := by
        show (if (decide (t.size > t.size) || decide (t.size - t.size < 1)) = true then _ else _) = _
        rw [if_pos (by simp)]
        rfl
      rw [e]; rfl
end
end Mine
open PySem PySem.Calls PyProof.Rows PySem.W
set_option Elab.async false
set_option autoImplicit false
set_option maxRecDepth 100000
namespace Mine
open PySem.Sre (M)
theorem slot_pat_sub : Slot "re.Pattern" "sub" "re.Pattern.sub" :=
  .of (owner := "re.Pattern") (n := "sub") (by rw [typeLookup_type, builtinLookup_eq_fast]; kernel_rfl) (by decide +kernel) (by decide +kernel) (by decide +kernel)
    (by first | exact .inl (by decide +kernel) | exact .inr (by decide +kernel)) (by rw [isSubtype_type]; kernel_rfl)
theorem type_pat_sub : typeOf (.builtin "re.Pattern.sub") = pure (.type "method_descriptor") := by show builtinType _ = _; rw [builtinType_eq_fast]; kernel_rfl
theorem entry_pat_sub : entryFor table "re.Pattern.sub" = some Builtin.«re.Pattern.sub» := entryFor_of_tree (by kernel_rfl)
theorem entry_pat_loop : entryFor table "re.Pattern.sub.loop" = some Builtin.«re.Pattern.sub.loop» := entryFor_of_tree (by kernel_rfl)
theorem plainAttrs_pat : PlainAttrs "re.Pattern" :=
  ⟨⟨"object.__getattribute__", by rw [typeLookup_type, builtinLookup_eq_fast]; kernel_rfl, by decide +kernel⟩, by rw [typeLookup_type, builtinLookup_eq_fast]; kernel_rfl⟩
theorem args_pat_sub_3 (a b c : Value) : argsOk "re.Pattern.sub" ⟨[a, b, c], []⟩ := by
  unfold argsOk; kernel_rfl
section
variable {Md : Model} {A : Around} {E : Value → Shared → Prop} {s : Shared}

theorem reDrive_ok {r : Option (Nat × Nat)} {Q : M → Shared → Prop} : ∀ (turns n : Nat) (m : M), EndsIn n m r → n ≤ 4 * turns → 0 < turns →
    (∀ m', (match r with | some (s, e) => m'.outcome = some .matched ∧ m'.start = s ∧ m'.handed = e | none => m'.outcome = some .failed) → Q m' s) →
    wpAny Md A (Builtin.Re.reDrive turns m) Q E s
  | 0, _, _, _, _, h, _ => absurd h (Nat.lt_irrefl _)
  | turns + 1, n, m, h, hn, _, hQ => by
    obtain ⟨k, hk, hh⟩ := h
    have out : (M.runFor k m).outcome.isSome = true := by
      cases r with
      | none => simp only at hh; rw [hh]; rfl
      | some x => obtain ⟨a, b⟩ := x; simp only at hh; rw [hh.1]; rfl
    have stay : ∀ (j : Nat) (x : M), x.outcome.isSome = true → M.runFor j x = x := fun j x hx => by
      cases j with
      | zero => rfl
      | succ j => show (if x.outcome.isSome then x else _) = x; rw [if_pos hx]
    show wpAny Md A (if (M.runFor 4 m).outcome.isSome then pure (M.runFor 4 m) else do rule "sre.turn"; Builtin.Re.reDrive turns (M.runFor 4 m)) Q E s
    by_cases h4 : (M.runFor 4 m).outcome.isSome = true
    · rw [if_pos h4]
      refine wpAny_pure (hQ _ ?_)
      have : M.runFor 4 m = M.runFor k m := by
        rcases Nat.le_total 4 k with hle | hle
        · have e : k = 4 + (k - 4) := by (first | lia | omega)
          rw [e, runFor_add, stay _ _ h4]
        · have e : 4 = k + (4 - k) := by (first | lia | omega)
          rw [e, runFor_add, stay _ _ out]
      rw [this]; exact hh
    · rw [if_neg h4]
      have hk4 : 4 < k := by
        rcases Nat.lt_or_ge 4 k with h | h
        · exact h
        · exfalso
          have e : 4 = k + (4 - k) := by (first | lia | omega)
          rw [e, runFor_add, stay _ _ out] at h4
          exact h4 out
      refine wpAny_bind (wpAny_rule ?_)
      refine reDrive_ok turns (n - 4) _ ⟨k - 4, by (first | lia | omega), ?_⟩ (by (first | lia | omega)) (by (first | lia | omega)) hQ
      have e : k = 4 + (k - 4) := by (first | lia | omega)
      rw [e, runFor_add] at hh
      exact hh

theorem rules_ok {α : Type} {f : α → PUnit → Sem (ForInStep PUnit)} {Q : PUnit → Shared → Prop} (hf : ∀ i (Q' : ForInStep PUnit → Shared → Prop), Q' (.yield ⟨⟩) s → wpAny Md A (f i ⟨⟩) Q' E s) (h : Q ⟨⟩ s) : ∀ (l : List α), wpAny Md A (forIn l PUnit.unit f) Q E s
  | [] => by rw [List.forIn_nil]; exact wpAny_pure h
  | x :: l => by
    rw [List.forIn_cons]
    exact wpAny_bind (hf x _ (rules_ok hf h l))

theorem runToEnd_ok {m : M} {r : Option (Nat × Nat)} {n : Nat} {Q : Option M → Shared → Prop} (h : EndsIn n m r) (hn : n ≤ 4 * 2 ^ 64)
    (hQ : match r with | some (a, e) => ∀ m' : M, m'.start = a → m'.handed = e → Q (some m') s | none => Q none s) : wpAny Md A (Builtin.Re.reRunToEnd m) Q E s := by
  unfold Builtin.Re.reRunToEnd
  refine wpAny_bind (reDrive_ok (2 ^ 64) n m h hn (by decide) fun m' hm => ?_)
  refine wpAny_bind (rules_ok (fun i Q' hQ' => ?_) ?_ _)
  · split
    · exact wpAny_bind (wpAny_rule (wpAny_pure hQ'))
    · exact wpAny_bind (wpAny_pure (wpAny_pure hQ'))
  cases r with
  | none =>
    simp only at hm hQ
    rw [hm]
    exact wpAny_pure hQ
  | some x =>
    obtain ⟨a, e⟩ := x
    simp only at hm hQ
    rw [hm.1]
    exact wpAny_pure (hQ m' hm.2.1 hm.2.2)
end

structure IsPat (h : Heap) (pa : Addr) (code : Array Nat) : Prop where
  ex : ∃ o fs T o' items n, h.get? pa = some o ∧ o.cls = .type "re.Pattern" ∧ o.dict = none ∧ o.data = .fields fs ∧ fs.getD 5 .none = .ref T ∧ Builtin.Re.reRawNat (fs.getD 2 .none) = 0 ∧ Builtin.Re.reRawNat (fs.getD 6 .none) = 0 ∧
    h.get? T = some o' ∧ o'.cls = .type "tuple" ∧ o'.data = .seq items n ∧ (items.map Builtin.Re.reRawOf).map (·.toNat) = code

theorem IsPat.keeps {h h' : Heap} {pa : Addr} {code : Array Nat} (x : IsPat h pa code) (k : ∀ a o, h.get? a = some o → h'.get? a = some o) : IsPat h' pa code := by
  obtain ⟨o, fs, T, o', items, n, h1, h2, h3, h4, h5, h6, h7, h8, h9⟩ := x.ex
  exact ⟨o, fs, T, o', items, n, k _ _ h1, h2, h3, h4, h5, h6, h7, k _ _ h8, h9⟩

section
variable {Md : Model} {A : Around} {E : Value → Shared → Prop} {s : Shared}

theorem wholeTarget_ok {pa : Addr} {code : Array Nat} {x : Str} {tk : Tok} {Q : Builtin.Re.ReTarget → Shared → Prop} (P : IsPat s.heap pa code)
    (h : Q { pattern := .ref pa, string := .str x tk, code := code, text := x.cps, kind := 0, groups := 0, pos := 0, lim := x.cps.size } s) : wpAny Md A (Builtin.Re.reWholeTarget (.ref pa) (.str x tk)) Q E s := by
  obtain ⟨o, fs, T, o', items, n, h1, h2, h3, h4, h5, h6, h7, h8, _, h9, h10⟩ := P.ex
  unfold Builtin.Re.reWholeTarget
  refine wpAny_bind (wpAny_fieldsOf h1 h4 ?_)
  refine wpAny_bind ?_
  show wpAny Md A (Builtin.Re.reTextOf (.str x tk)) _ E s
  unfold Builtin.Re.reTextOf
  refine wpAny_bind (wpAny_pure ?_)
  refine wpAny_pure ?_
  simp only [h7]
  refine wpAny_bind ?_
  refine wpAny_pure ?_
  refine wpAny_bind ?_
  rw [h5]
  unfold Builtin.Re.reRawItems
  refine wpAny_bind (wpAny_seqItems h8 h9 (wpAny_pure ?_))
  refine wpAny_pure ?_
  simp only [Option.getD_some, h10, h6]
  exact h
end
end Mine
open PySem PySem.Calls PyProof.Rows PySem.W
set_option Elab.async false
set_option autoImplicit false
namespace Mine
open PySem.Sre (M)

noncomputable def cut (x : Array Nat) (a b : Nat) : List Str := if a < b then [⟨x.extract a b⟩] else []

inductive SubR (code x : Array Nat) (rp : Str) : Nat → List Str → Prop
  | stop {pos n : Nat} : n ≤ 4 * 2 ^ 64 → EndsIn n (Sre.forSearch code x 0 pos x.size false) none → SubR code x rp pos (cut x pos x.size)
  | go {pos n a e : Nat} {ps : List Str} : n ≤ 4 * 2 ^ 64 → EndsIn n (Sre.forSearch code x 0 pos x.size false) (some (a, e)) → a < e → SubR code x rp e ps → SubR code x rp pos (cut x pos a ++ rp :: ps)

section
variable {prog : Program} {w : World} {A : Around} {s : Shared}

structure Pcs (h : Heap) (D : Addr) (acc : List Str) : Prop where
  ex : ∃ o vs n, h.get? D = some o ∧ o.cls = .type "list" ∧ o.data = .seq vs n ∧ StrsAre vs.toList acc

theorem strs_snoc {vs : List Value} {xs : List Str} (h : StrsAre vs xs) (x : Str) (t : Tok) : StrsAre (vs ++ [.str x t]) (xs ++ [x]) := by
  induction h with
  | nil => exact .cons x t .nil
  | cons k t' _ ih => exact .cons k t' ih

theorem push_ok {D : Addr} {acc : List Str} {x : Str} {t : Tok} {Md : Model} {E : Value → Shared → Prop} {Q : Unit → Shared → Prop} (P : Pcs s.heap D acc) (hsz : acc.length ≤ sizeLine)
    (h : ∀ h', Pcs h' D (acc ++ [x]) → (∀ a o, a ≠ D → s.heap.get? a = some o → h'.get? a = some o) → Q () { s with heap := h' }) : wpAny Md A (updateSeq D (·.push (.str x t))) Q E s := by
  obtain ⟨o, vs, n, h1, h2, h3, h4⟩ := P.ex
  have hl : vs.size = acc.length := by
    have := h4.length; simpa using this
  refine wpAny_updateSeq h1 h3 (h _ ?_ fun a o' hne e => ?_) (by (first | lia | omega)) (by rw [Array.size_push]; (first | lia | omega))
  · obtain ⟨c, dd, dt, sl⟩ := o
    simp only at h2 h3
    subst h2; subst h3
    refine ⟨Obj.mapSeq (·.push (.str x t)) ⟨.type "list", dd, .seq vs n, sl⟩, vs.push (.str x t), _, Heap.get?_update_self _ h1 rfl, rfl, rfl, ?_⟩
    rw [Array.toList_push]
    exact strs_snoc h4 x t
  · rw [Heap.get?_update_other _ _ (Ne.symm hne)]; exact e

theorem cut_ok {β : Type} {k : Sem β} {D : Addr} {acc : List Str} {x : Array Nat} {a b : Nat} {Md : Model} {E : Value → Shared → Prop} {Q : β → Shared → Prop} (P : Pcs s.heap D acc) (hsz : acc.length ≤ sizeLine) (hx : x.size ≤ sizeLine)
    (h : ∀ h' tk, Pcs h' D (acc ++ cut x a b) → (∀ a o, a ≠ D → s.heap.get? a = some o → h'.get? a = some o) → wpAny Md A k Q E { s with heap := h', toks := tk }) :
    wpAny Md A (if a < b then do let v ← Builtin.Re.reSlice x 0 a b; updateSeq D (·.push v); k else k) Q E s := by
  unfold cut at h
  by_cases hab : a < b
  · rw [if_pos hab] at h ⊢
    refine wpAny_bind ?_
    unfold Builtin.Re.reSlice
    rw [if_pos (by decide)]
    refine wpAny_mkStr ?_ ?_
    · exact wpAny_bind (push_ok (s := { s with toks := s.toks + 1 }) P hsz fun h' p k => h h' _ p k)
    · show (x.extract a b).size ≤ _
      rw [Array.size_extract]; (first | lia | omega)
  · rw [if_neg hab] at h ⊢
    exact h s.heap s.toks (by rw [List.append_nil]; exact P) fun _ _ _ e => e

theorem IsPat.but {h h' : Heap} {pa D : Addr} {code : Array Nat} {acc : List Str} (x : IsPat h pa code) (c : Pcs h D acc) (k : ∀ a o, a ≠ D → h.get? a = some o → h'.get? a = some o) : IsPat h' pa code := by
  obtain ⟨o, fs, T, o', items, n, h1, h2, h3, h4, h5, h6, h7, h8, h9, h10⟩ := x.ex
  obtain ⟨od, vs, n', d1, d2, _⟩ := c.ex
  refine ⟨o, fs, T, o', items, n, k _ _ (fun e => ?_) h1, h2, h3, h4, h5, h6, h7, k _ _ (fun e => ?_) h8, h9, h10⟩
  · subst e; rw [h1] at d1; cases d1; rw [h2] at d2; exact absurd d2 (by decide)
  · subst e; rw [h8] at d1; cases d1; rw [h9] at d2; exact absurd d2 (by decide)

theorem join_empty (acc : List Str) (x : Array Nat) : Txt.join ⟨x.extract 0 0⟩ acc = Txt.join ⟨#[]⟩ acc := by
  have : x.extract 0 0 = #[] := by simp
  rw [this]

theorem loop_ok {R : Result → Shared → Prop} {pa D : Addr} {code : Array Nat} {x rp : Str} {tk tr : Tok} (hx : x.cps.size ≤ sizeLine) : ∀ {pos : Nat} {ps : List Str}, SubR code x.cps rp pos ps → ∀ (acc : List Str) (n : Int) (s : Shared),
    IsPat s.heap pa code → Pcs s.heap D acc → acc.length + ps.length ≤ sizeLine → ((acc ++ ps).map (·.length)).sum ≤ 16777216 →
    (∀ t' h' tk', (∀ a o, a ≠ D → s.heap.get? a = some o → h'.get? a = some o) → R (.ok (.ret (.str (Txt.join ⟨#[]⟩ (acc ++ ps)) t'))) { s with heap := h', toks := tk' }) →
    codeAny (model prog w) A (.builtin "re.Pattern.sub.loop" ⟨[.ref pa, .str x tk, .str rp tr, rawInt 0, rawInt 0, rawInt n, rawInt pos, rawInt pos, .bool false, .ref D, .bool false], []⟩) R s := by
  intro pos ps sub
  induction sub with
  | @stop pos n hn he =>
    intro acc n' s P C hlen hsum hR
    refine codeAny_builtin entry_pat_loop ?_
    unfold Builtin.«re.Pattern.sub.loop»
    simp only [rawInt]
    refine wpAny_bind (wholeTarget_ok P ?_)
    rw [if_pos (by decide)]
    refine wpAny_bind ?_
    show wpAny _ _ (Builtin.Re.reLiteralCannotBeTurned (Value.str rp tr)) _ _ s
    refine wpAny_bind (wpAny_pure ?_)
    refine wpAny_pure ?_
    refine wpAny_bind ?_
    rw [if_neg (by simp)]
    refine runToEnd_ok he hn ?_
    simp only
    refine cut_ok C (by (first | lia | omega)) hx fun h' tk' C' k' => ?_
    refine wpAny_bind ?_
    unfold Builtin.Re.reSlice
    rw [if_pos (by decide)]
    refine wpAny_mkStr ?_ (by show (x.cps.extract 0 0).size ≤ _; simp)
    obtain ⟨o, vs, nn, d1, d2, d3, d4⟩ := C'.ex
    refine wpAny_bind (wpAny_seqItems (s := { s with heap := h', toks := tk' + 1 }) d1 d3 ?_)
    simp only [Option.getD_some]
    by_cases hem : vs.isEmpty = true
    · rw [if_pos hem]
      have hv : vs = #[] := by simpa using hem
      have ha : acc ++ cut x.cps pos x.cps.size = [] := by
        rw [hv] at d4
        have := d4.length
        exact List.eq_nil_of_length_eq_zero this.symm
      refine wpAny_bind (wpAny_pure ?_)
      refine wpAny_pure ?_
      have := hR tk' h' (tk' + 1) k'
      rw [ha] at this
      have e : (⟨x.cps.extract 0 0⟩ : Str) = Txt.join ⟨#[]⟩ [] := by
        have : x.cps.extract 0 0 = #[] := by simp
        rw [this]; rfl
      rw [e]; exact this
    · rw [if_neg hem]
      refine wpAny_bind ?_
      show wpAny _ _ (call (.builtin "str.join") [_, _]) _ _ _
      refine join_list (s := { s with heap := h', toks := tk' + 1 }) (items := vs) ⟨o, d1, d2, nn, d3⟩ d4 ?_ fun t' kk => ?_
      · have e0 : (⟨x.cps.extract 0 0⟩ : Str).length = 0 := by show (x.cps.extract 0 0).size = 0; simp
        rw [e0, Nat.mul_zero, Nat.add_zero]; exact hsum
      · refine wpAny_pure ?_
        rw [join_empty]
        exact hR t' h' kk k'
  | @go pos n a e ps hn he hae sub ih =>
    intro acc n' s P C hlen hsum hR
    rw [List.length_append, List.length_cons] at hlen
    refine codeAny_builtin entry_pat_loop ?_
    unfold Builtin.«re.Pattern.sub.loop»
    simp only [rawInt]
    refine wpAny_bind (wholeTarget_ok P ?_)
    rw [if_pos (by decide)]
    refine wpAny_bind ?_
    show wpAny _ _ (Builtin.Re.reLiteralCannotBeTurned (Value.str rp tr)) _ _ s
    refine wpAny_bind (wpAny_pure ?_)
    refine wpAny_pure ?_
    refine wpAny_bind ?_
    rw [if_neg (by simp)]
    refine runToEnd_ok he hn ?_
    simp only
    intro m' hs' he'
    subst hs'; subst he'
    refine cut_ok C (by (first | lia | omega)) hx fun h' tk' C' k' => ?_
    rw [if_pos (by decide)]
    refine wpAny_bind (wpAny_pure ?_)
    rw [if_pos (by rfl)]
    refine wpAny_bind (push_ok (s := { s with heap := h', toks := tk' }) C' (by rw [List.length_append]; show _ + (cut x.cps pos m'.start).length ≤ _; (first | lia | omega)) fun h2 C2 k2 => ?_)
    refine wpAny_pure (And.intro (plainId_quiet (by decide +kernel) _) ?_)
    have hb : (m'.handed == m'.start) = false := by simp; (first | lia | omega)
    rw [hb]
    have e1 : acc ++ (cut x.cps pos m'.start ++ rp :: ps) = (acc ++ cut x.cps pos m'.start ++ [rp]) ++ ps := by simp
    refine ih (acc ++ cut x.cps pos m'.start ++ [rp]) (n' + 1) { s with heap := h2, toks := tk' } ((P.but C k').but C' k2) C2 ?_ ?_ fun t' h3 tk3 k3 => ?_
    · simp only [List.length_append, List.length_cons, List.length_nil]; (first | lia | omega)
    · rw [← e1]; exact hsum
    · rw [← e1]
      exact hR t' h3 tk3 fun b o hb e => k3 b o hb (k2 b o hb (k' b o hb e))
end
end Mine
open PySem PySem.Calls PyProof.Rows PySem.W
set_option Elab.async false
set_option autoImplicit false
set_option maxRecDepth 100000
namespace Mine
open PySem.Sre (M)

theorem named_ok (a b : Value) : Builtin.Re.reNamed "re.Pattern.sub" "sub" ["repl", "string", "count"] 2 [a, b] [] = pure [some a, some b, none] := by rfl
theorem str_no_call : typeLookup (.type "str") "__call__" = pure none := by rw [typeLookup_type, builtinLookup_eq_fast]; kernel_rfl

section
variable {prog : Program} {w : World} {A : Around} {s : Shared}

theorem sub_ok {E : Value → Shared → Prop} {Q : Value → Shared → Prop} {pa : Addr} {code : Array Nat} {x rp : Str} {tk tr : Tok} {ps : List Str} (P : IsPat s.heap pa code) (hrp : rp.cps.contains 92 = false) (hx : x.cps.size ≤ sizeLine)
    (sub : SubR code x.cps rp 0 ps) (hlen : ps.length ≤ sizeLine) (hsum : (ps.map (·.length)).sum ≤ 16777216)
    (hQ : ∀ t' h' tk', (∀ a o, s.heap.get? a = some o → h'.get? a = some o) → Q (.str (Txt.join ⟨#[]⟩ ps) t') { s with heap := h', toks := tk' }) :
    wpAny (model prog w) A (call (.builtin "re.Pattern.sub") [.ref pa, .str rp tr, .str x tk]) Q E s := by
  have hT : s.TypeIs (.ref pa) "re.Pattern" := by
    obtain ⟨o, fs, T, o', items, n, h1, h2, _⟩ := P.ex
    exact ⟨o, h1, h2⟩
  refine wpAny_call (codeAny_call_builtin slot_pat_sub.plain entry_pat_sub ?_)
  refine slot_pat_sub.check _ _ _ _ _ _ _ _ hT (args_pat_sub_3 _ _ _) ?_
  show wpAny _ _ (Builtin.Re.reSubstitute "re.Pattern.sub" "sub" false _) _ _ s
  unfold Builtin.Re.reSubstitute
  simp only
  rw [named_ok]
  refine wpAny_bind (wpAny_pure ?_)
  simp only
  refine wpAny_bind (wpAny_pure ?_)
  refine wpAny_bind (wpAny_specialOf (typeIs_str _ _ _) str_no_call ?_)
  refine wpAny_bind ?_
  simp only [Option.isSome_none, Bool.false_eq_true, if_false]
  refine wpAny_bind (wpAny_pure ?_)
  refine wpAny_pure ?_
  simp only [hrp, Bool.not_false]
  refine wpAny_bind (wpAny_pure ?_)
  rw [if_pos rfl]
  refine wpAny_bind (wpAny_pure ?_)
  simp only
  refine wpAny_bind (wpAny_holding (wholeTarget_ok P ?_))
  rw [if_neg (by decide)]
  refine wpAny_bind (wpAny_newList ?_)
  refine wpAny_pure (And.intro (plainId_quiet (by decide +kernel) _) ?_)
  have kk : ∀ a o, s.heap.get? a = some o → (s.heap.push { cls := .type "list", data := .seq ([] : List Value).toArray }).get? a = some o := Heap.push_keeps _
  refine loop_ok hx sub [] 0 _ (P.keeps kk) ⟨_, #[], _, Heap.get?_push_size _ rfl, rfl, rfl, .nil⟩ (by simpa using hlen) (by simpa using hsum) fun t' h' tk' k' => ?_
  exact hQ t' h' tk' fun a o e => k' a o (fresh_ne e) (kk a o e)
end
end Mine
open PySem PySem.Calls PyProof.Rows PySem.W
set_option Elab.async false
set_option autoImplicit false
namespace Mine
open PySem.StrLaws PySem.Builtin.Str

noncomputable def glue (e : List Nat) : List (List Nat) → List Nat
  | [] => []
  | [l] => l
  | l :: r => l ++ e ++ glue e r

theorem glue_cons {e l : List Nat} {r : List (List Nat)} (h : r ≠ []) : glue e (l :: r) = l ++ e ++ glue e r := by
  cases r with
  | nil => exact absurd rfl h
  | cons a b => rfl

noncomputable abbrev S (l : List Nat) : Str := ⟨l.toArray⟩
theorem S_toList (x : Str) : S x.cps.toList = x := by cases x; rfl

theorem join_glue (e : List Nat) : ∀ ls : List (List Nat), Txt.join (S e) (ls.map S) = S (glue e ls) := by
  intro ls
  show glued _ _ = _
  rw [glued_eq_join]
  induction ls with
  | nil => rfl
  | cons l r ih =>
    cases r with
    | nil => rfl
    | cons m r =>
      show S l ++ S e ++ Str.join (S e) (S m :: r.map S) = _
      rw [show S m :: r.map S = (m :: r).map S from rfl, ih, glue_cons (l := l) (r := m :: r) (by simp)]
      apply Str.ext'
      apply Array.toList_inj.mp
      simp [Str.cps_append]

theorem at_char {x : List Nat} {c : Nat} {se : List Nat} {k : Nat} (h : At (S x) (S (c :: se)) x.length k) : x[k]? = some c := by
  obtain ⟨h1, h2⟩ := h
  rw [subAt_eq] at h2
  have h3 := eq_of_beq h2
  have h4 : ((x.drop k).take (c :: se).length)[0]? = some c := by
    have : ((S x).cps.toList.drop k).take (S (c :: se)).length = c :: se := h3
    have e : (x.drop k).take (c :: se).length = c :: se := this
    rw [e]; rfl
  simpa using h4

theorem parts_ok {c : Nat} {se : List Nat} : ∀ (ls : List (List Nat)) (x pre : List Nat) (cuts : List Nat) (f : Nat), ls ≠ [] → (∀ l ∈ ls, c ∉ l) → x = pre ++ glue (c :: se) ls →
    ChainG (S x) (S (c :: se)) x.length pre.length cuts f → (∀ k, f ≤ k → ¬ At (S x) (S (c :: se)) x.length k) → partsFrom (S x) (c :: se).length pre.length cuts = ls.map S
  | [], _, _, _, _, h, _, _, _, _ => absurd rfl h
  | [l], x, pre, cuts, f, _, hl, hx, hc, hn => by
    subst hx
    have noAt : ∀ k, pre.length ≤ k → ¬ At (S (pre ++ l)) (S (c :: se)) (pre ++ l).length k := fun k hk hA => by
      have := at_char hA
      rw [List.getElem?_append_right hk] at this
      exact hl l (.head _) (List.mem_of_getElem? this)
    cases cuts with
    | nil =>
      show [strSub (S (pre ++ l)) pre.length (S (pre ++ l)).length] = [S l]
      congr 1
      apply Str.ext'
      apply Array.toList_inj.mp
      rw [strSub_toList]
      show ((pre ++ l).drop pre.length).take ((pre ++ l).length - pre.length) = l
      rw [List.drop_left, List.length_append, Nat.add_sub_cancel_left, List.take_length]
    | cons d r => exact absurd hc.2.1 (noAt d hc.1)
  | l :: m :: ls, x, pre, cuts, f, _, hl, hx, hc, hn => by
    rw [glue_cons (by simp)] at hx
    have hA : At (S x) (S (c :: se)) x.length (pre.length + l.length) := by
      refine ⟨?_, ?_⟩
      · rw [hx]; show _ + (c :: se).length ≤ _; simp only [List.length_append]; (first | lia | omega)
      · rw [subAt_eq]
        have : (x.drop (pre.length + l.length)).take (c :: se).length = c :: se := by
          rw [hx, show pre ++ (l ++ (c :: se) ++ glue (c :: se) (m :: ls)) = (pre ++ l) ++ ((c :: se) ++ glue (c :: se) (m :: ls)) by simp]
          rw [show pre.length + l.length = (pre ++ l).length by simp, List.drop_left, List.take_left]
        show (((S x).cps.toList.drop _).take (S (c :: se)).length == (S (c :: se)).cps.toList) = true
        exact beq_iff_eq.mpr this
    cases cuts with
    | nil =>
      have e : f = pre.length := hc
      exact absurd hA (hn _ (by (first | lia | omega)))
    | cons d r =>
      obtain ⟨h1, h2, h3, h4⟩ := hc
      have hd : d = pre.length + l.length := by
        rcases Nat.lt_trichotomy d (pre.length + l.length) with h | h | h
        · exfalso
          have := at_char h2
          rw [hx, List.getElem?_append_right h1, List.append_assoc, List.getElem?_append_left (by (first | lia | omega))] at this
          exact hl l (.head _) (List.mem_of_getElem? this)
        · exact h
        · exact absurd hA (h3 _ (by (first | lia | omega)) h)
      subst hd
      show strSub (S x) pre.length (pre.length + l.length) :: partsFrom (S x) (c :: se).length (pre.length + l.length + (c :: se).length) r = S l :: (m :: ls).map S
      have e1 : strSub (S x) pre.length (pre.length + l.length) = S l := by
        apply Str.ext'
        apply Array.toList_inj.mp
        rw [strSub_toList]
        show (x.drop pre.length).take _ = l
        rw [hx, List.drop_left, Nat.add_sub_cancel_left, List.append_assoc, List.take_left]
      have e2 := parts_ok (m :: ls) x (pre ++ l ++ (c :: se)) r f (by simp) (fun y hy => hl y (.tail _ hy)) (by rw [hx]; simp) (by
        have : (pre ++ l ++ c :: se).length = pre.length + l.length + (S (c :: se)).length := by
          show _ = _ + _ + (c :: se).length
          simp only [List.length_append]
        rw [this]; exact h4) hn
      have e3 : (pre ++ l ++ c :: se).length = pre.length + l.length + (c :: se).length := by simp only [List.length_append]
      rw [e1, ← e3, e2]

theorem kind_le {x y : List Nat} (h : ∀ c ∈ y, c < 256) : ¬ (Builtin.Str.strKind (S x) < Builtin.Str.strKind (S y)) := by
  have : Builtin.Str.strKind (S y) = 1 := by
    unfold Builtin.Str.strKind
    rw [if_pos]
    rw [← Array.all_toList]
    exact List.all_eq_true.mpr fun c hc => decide_eq_true (h c hc)
  rw [this]
  unfold Builtin.Str.strKind
  split
  · (first | lia | omega)
  · split <;> (first | lia | omega)

theorem split_glue {c : Nat} {se : List Nat} (hs : ∀ d ∈ c :: se, d < 256) (ls : List (List Nat)) (h0 : ls ≠ []) (hl : ∀ l ∈ ls, c ∉ l) : Txt.split (S (glue (c :: se) ls)) (S (c :: se)) = ls.map S := by
  obtain ⟨f, hc, hn⟩ := occ_tight (S (glue (c :: se) ls)) (S (c :: se)) (by show 1 ≤ (c :: se).length; simp)
  have key := parts_ok ls (glue (c :: se) ls) [] _ f h0 hl rfl hc hn
  have one : ∀ {P : Prop}, (∀ k, ¬ At (S (glue (c :: se) ls)) (S (c :: se)) (glue (c :: se) ls).length k) → [S (glue (c :: se) ls)] = ls.map S := fun {P} hno => by
    match ls, h0 with
    | [l], _ => rfl
    | l :: m :: r, _ =>
      exfalso
      refine hno l.length ⟨?_, ?_⟩
      · rw [glue_cons (by simp)]; show _ + (c :: se).length ≤ _; simp only [List.length_append]; (first | lia | omega)
      · rw [subAt_eq]
        have : ((glue (c :: se) (l :: m :: r)).drop l.length).take (c :: se).length = c :: se := by
          rw [glue_cons (by simp), List.append_assoc, List.drop_left, List.take_left]
        show (((S (glue (c :: se) (l :: m :: r))).cps.toList.drop _).take (S (c :: se)).length == (S (c :: se)).cps.toList) = true
        exact beq_iff_eq.mpr this
  unfold Txt.split
  split
  · rename_i hb
    refine one (P := True) fun k hA => ?_
    rw [Bool.or_eq_true, decide_eq_true_eq, decide_eq_true_eq] at hb
    rcases hb with hb | hb
    · have := hA.1
      have e : (S (glue (c :: se) ls)).length = (glue (c :: se) ls).length := by show (glue (c :: se) ls).toArray.size = _; simp
      rw [e] at hb
      (first | lia | omega)
    · exact kind_le hs hb
  · split
    · rename_i he
      have e0 := List.isEmpty_iff.mp he
      refine one (P := True) fun k hA => ?_
      rw [e0] at hc
      have ef : f = 0 := hc
      exact hn k (by (first | lia | omega)) hA
    · rw [partsBetween_eq]
      exact key
end Mine
open PySem PySem.Calls PyProof.Rows PySem.W
set_option Elab.async false
set_option autoImplicit false
namespace Mine

theorem gd (l : List Nat) (i : Nat) : l.toArray.getD i 0 = (l[i]?).getD 0 := by simp
noncomputable def flatS (ps : List Str) : List Nat := ps.flatMap (·.cps.toList)

theorem cut_flat (x : List Nat) {a b : Nat} (hab : a ≤ b) : flatS (cut x.toArray a b) = (x.drop a).take (b - a) := by
  unfold cut flatS
  split
  · simp
  · have : b - a = 0 := by (first | lia | omega)
    rw [this]; simp
theorem cut_len (x : Array Nat) (a b : Nat) : (cut x a b).length ≤ 1 := by unfold cut; split <;> simp

noncomputable def okLine (l : List Nat) : Prop := 10 ∉ l ∧ 13 ∉ l
noncomputable def isEnd (e : List Nat) : Prop := e = [10] ∨ e = [13] ∨ e = [13, 10]

theorem in_line {l : List Nat} {i : Nat} (h : i < l.length) : (l[i]?).getD 0 ∈ l := by
  rw [List.getElem?_eq_getElem h]; exact List.getElem_mem h

theorem no_hit2 {pre l post : List Nat} (hl : okLine l) : ∀ i, pre.length ≤ i → i < pre.length + l.length → ¬ Hit2 (pre ++ (l ++ post)).toArray i := by
  intro i h1 h2 hh
  unfold Hit2 at hh
  rw [gd, List.getElem?_append_right h1, List.getElem?_append_left (by (first | lia | omega))] at hh
  have hm := in_line (l := l) (i := i - pre.length) (by (first | lia | omega))
  rcases hh with h | h
  · rw [h] at hm; exact hl.1 hm
  · rw [h] at hm; exact hl.2 hm

theorem head_not10 {e m : List Nat} {r : List (List Nat)} (he : e = [13]) (hm : okLine m) : (glue e (m :: r))[0]? ≠ some 10 := by
  intro h
  subst he
  cases r with
  | nil =>
    have : glue [13] [m] = m := rfl
    rw [this] at h
    exact hm.1 (List.mem_of_getElem? h)
  | cons a b =>
    rw [glue_cons (by simp)] at h
    cases m with
    | nil => simp at h
    | cons c m => simp at h; exact hm.1 (by rw [h]; exact .head _)

theorem norm_ok {e : List Nat} (he : isEnd e) : ∀ (ls : List (List Nat)) (pre : List Nat), ls ≠ [] → (∀ l ∈ ls, okLine l) →
    ∃ ps, SubR c2 (pre ++ glue e ls).toArray (S [13, 10]) pre.length ps ∧ flatS ps = glue [13, 10] ls ∧ ps.length ≤ 2 * ls.length
  | [], _, h, _ => absurd rfl h
  | [l], pre, _, hl => by
    have hno := no_hit2 (pre := pre) (post := []) (hl l (.head _))
    rw [List.append_nil] at hno
    refine ⟨_, SubR.stop (n := 20) (by (first | lia | omega)) (c2_search _ _ none (by simp) fun i h1 h2 => hno i h1 (by have e0 : glue e [l] = l := rfl; rw [e0] at h2; simpa using h2)), ?_, ?_⟩
    · rw [cut_flat _ (by simp)]
      show ((pre ++ l).drop pre.length).take _ = l
      rw [List.drop_left, List.take_of_length_le (by show _ ≤ (pre ++ l).toArray.size - _; simp)]
    · have := cut_len (pre ++ glue e [l]).toArray pre.length (pre ++ glue e [l]).toArray.size
      simp only [List.length_cons, List.length_nil]; (first | lia | omega)
  | l :: m :: ls, pre, _, hl => by
    obtain ⟨ps, h1, h2, h3⟩ := norm_ok he (m :: ls) (pre ++ l ++ e) (by simp) fun y hy => hl y (.tail _ hy)
    have hx : pre ++ glue e (l :: m :: ls) = pre ++ (l ++ (e ++ glue e (m :: ls))) := by rw [glue_cons (by simp), List.append_assoc]
    have hx2 : pre ++ l ++ e ++ glue e (m :: ls) = pre ++ (l ++ (e ++ glue e (m :: ls))) := by simp
    rw [hx]
    rw [hx2] at h1
    have hno := no_hit2 (pre := pre) (post := e ++ glue e (m :: ls)) (hl l (.head _))
    have hget : ∀ j, (pre ++ (l ++ (e ++ glue e (m :: ls)))).toArray.getD (pre.length + l.length + j) 0 = ((e ++ glue e (m :: ls))[j]?).getD 0 := fun j => by
      rw [gd, List.getElem?_append_right (by (first | lia | omega)), List.getElem?_append_right (by (first | lia | omega))]
      congr 2; (first | lia | omega)
    have hsz : (pre ++ (l ++ (e ++ glue e (m :: ls)))).toArray.size = pre.length + l.length + e.length + (glue e (m :: ls)).length := by simp; (first | lia | omega)
    have hel : 1 ≤ e.length := by rcases he with rfl | rfl | rfl <;> simp
    have hhit : Hit2 (pre ++ (l ++ (e ++ glue e (m :: ls)))).toArray (pre.length + l.length) := by
      unfold Hit2
      have := hget 0
      rw [Nat.add_zero] at this
      rw [this]
      rcases he with rfl | rfl | rfl <;> simp
    have hlen : len2 (pre ++ (l ++ (e ++ glue e (m :: ls)))).toArray (pre.length + l.length) = e.length := by
      unfold len2
      have g0 := hget 0
      have g1 := hget 1
      rw [Nat.add_zero] at g0
      rw [g0, g1, hsz]
      rcases he with rfl | rfl | rfl
      · rw [if_neg (by simp)]; rfl
      · rw [if_neg]; rfl
        rintro ⟨_, h5, h6⟩
        have hh := head_not10 (r := ls) (rfl : ([13] : List Nat) = [13]) (hl m (.tail _ (.head _)))
        simp only [List.cons_append, List.nil_append, List.getElem?_cons_succ] at h6
        cases hq : (glue [13] (m :: ls))[0]? with
        | none => rw [hq] at h6; cases h6
        | some c => rw [hq] at h6 hh; simp at h6; subst h6; exact hh rfl
      · rw [if_pos]; rfl
        refine ⟨by simp, by simp; (first | lia | omega), by simp⟩
    have e3 : (pre ++ l ++ e).length = pre.length + l.length + e.length := by simp only [List.length_append]
    rw [e3] at h1
    refine ⟨_, SubR.go (n := 20) (a := pre.length + l.length) (by (first | lia | omega)) (c2_search _ _ (some (_, _)) (by rw [hsz]; (first | lia | omega)) ⟨by (first | lia | omega), by rw [hsz]; (first | lia | omega), hno, hhit, rfl⟩) (by rw [hlen]; (first | lia | omega)) (by rw [hlen]; exact h1), ?_, ?_⟩
    · unfold flatS at h2 ⊢
      rw [List.flatMap_append, List.flatMap_cons, h2]
      have := cut_flat (pre ++ (l ++ (e ++ glue e (m :: ls)))) (a := pre.length) (b := pre.length + l.length) (by (first | lia | omega))
      unfold flatS at this
      rw [this, List.drop_left, Nat.add_sub_cancel_left, List.take_left]
      rw [glue_cons (e := [13, 10]) (l := l) (r := m :: ls) (by simp)]
      simp
    · have := cut_len (pre ++ (l ++ (e ++ glue e (m :: ls)))).toArray pre.length (pre.length + l.length)
      simp only [List.length_append, List.length_cons] at h3 ⊢; (first | lia | omega)

noncomputable def dotted (l : List Nat) : List Nat := if l[0]? = some 46 then 46 :: l else l

theorem dots_ok : ∀ (ls : List (List Nat)) (pre u : List Nat), ls ≠ [] → (∀ l ∈ ls, okLine l) → (pre ++ u = [] ∨ ∃ v, pre ++ u = v ++ [10]) → (pre ++ u ++ glue [13, 10] ls).length ≤ 2 ^ 40 →
    (∀ i, pre.length ≤ i → i < pre.length + u.length → ¬ Hit1 (pre ++ u ++ glue [13, 10] ls).toArray i) →
    ∃ ps, SubR c1 (pre ++ u ++ glue [13, 10] ls).toArray (S [46, 46]) pre.length ps ∧ flatS ps = u ++ glue [13, 10] (ls.map dotted) ∧ ps.length ≤ 2 * ls.length + 1
  | [], _, _, h, _, _, _, _ => absurd rfl h
  | l :: ls, pre, u, _, hl, hst, hbig, hu => by
    -- the text behind the line
    obtain ⟨rest, hrest⟩ : ∃ rest, glue [13, 10] (l :: ls) = l ++ rest ∧ (ls = [] ∧ rest = [] ∨ ls ≠ [] ∧ rest = [13, 10] ++ glue [13, 10] ls) := by
      cases ls with
      | nil => exact ⟨[], by simp [glue], .inl ⟨rfl, rfl⟩⟩
      | cons m r => exact ⟨_, by rw [glue_cons (by simp), List.append_assoc], .inr ⟨by simp, rfl⟩⟩
    obtain ⟨hg, hcase⟩ := hrest
    generalize hX : pre ++ u ++ glue [13, 10] (l :: ls) = X at hu hbig ⊢
    rw [hg] at hX
    have hX' : X = (pre ++ u) ++ (l ++ rest) := hX.symm
    have hb : (pre ++ u).length = pre.length + u.length := by simp
    have hgetl : ∀ j, j < l.length → X.toArray.getD (pre.length + u.length + j) 0 = (l[j]?).getD 0 := fun j hj => by
      rw [gd, hX', List.getElem?_append_right (by (first | lia | omega)), List.getElem?_append_left (by (first | lia | omega))]
      congr 2; (first | lia | omega)
    have hgetr : ∀ j, X.toArray.getD (pre.length + u.length + l.length + j) 0 = (rest[j]?).getD 0 := fun j => by
      rw [gd, hX', List.getElem?_append_right (by (first | lia | omega)), List.getElem?_append_right (by (first | lia | omega))]
      congr 2; (first | lia | omega)
    have hsz : X.toArray.size = pre.length + u.length + l.length + rest.length := by rw [hX']; simp; (first | lia | omega)
    have hbig' : 3 * X.toArray.size + 5 ≤ 4 * 2 ^ 64 := by rw [List.size_toArray]; (first | lia | omega)
    have lok := hl l (.head _)
    -- no hit inside the line
    have hin : ∀ i, pre.length + u.length < i → i < pre.length + u.length + l.length + 1 → ¬ Hit1 X.toArray i := fun i h1 h2 hh => by
      obtain ⟨hh, _⟩ := hh
      rcases hh with hh | hh
      · (first | lia | omega)
      · have := hgetl (i - 1 - (pre.length + u.length)) (by (first | lia | omega))
        rw [show pre.length + u.length + (i - 1 - (pre.length + u.length)) = i - 1 by (first | lia | omega)] at this
        rw [this] at hh
        have hm := in_line (l := l) (i := i - 1 - (pre.length + u.length)) (by (first | lia | omega))
        rw [hh] at hm
        exact lok.1 hm
    have hcr : ls ≠ [] → ∀ i, pre.length + u.length + l.length ≤ i → i < pre.length + u.length + l.length + 2 → ¬ Hit1 X.toArray i := fun hne i h1 h2 hh => by
      obtain ⟨_, hh⟩ := hh
      have hr : rest = [13, 10] ++ glue [13, 10] ls := by
        rcases hcase with ⟨h, _⟩ | ⟨_, h⟩
        · exact absurd h hne
        · exact h
      have := hgetr (i - (pre.length + u.length + l.length))
      rw [show pre.length + u.length + l.length + (i - (pre.length + u.length + l.length)) = i by (first | lia | omega)] at this
      rw [this, hr] at hh
      have : i - (pre.length + u.length + l.length) = 0 ∨ i - (pre.length + u.length + l.length) = 1 := by (first | lia | omega)
      rcases this with h | h <;> (rw [h] at hh; simp at hh)
    have hstart : pre.length + u.length = 0 ∨ X.toArray.getD (pre.length + u.length - 1) 0 = 10 := by
      rcases hst with h | ⟨v, hv⟩
      · left; rw [← hb, h]; rfl
      · right
        rw [gd, hX', List.getElem?_append_left (by rw [hv]; simp; have := congrArg List.length hv; simp at this; (first | lia | omega)), hv]
        have := congrArg List.length hv
        simp at this
        rw [this]; simp
    by_cases hd : l[0]? = some 46
    · -- a line with a dot
      have h0 : 0 < l.length := (List.getElem?_eq_some_iff.mp hd).1
      have hhit : Hit1 X.toArray (pre.length + u.length) := by
        refine ⟨hstart, ?_⟩
        have := hgetl 0 h0
        rw [Nat.add_zero] at this
        rw [this, hd]; rfl
      have hdl : dotted l = 46 :: l := by unfold dotted; rw [if_pos hd]
      obtain ⟨c, l', hll⟩ : ∃ c l', l = c :: l' := by cases l with | nil => cases h0 | cons c l' => exact ⟨c, l', rfl⟩
      have hc : c = 46 := by rw [hll] at hd; simpa using hd
      subst hc
      have go : ∀ {ps : List Str}, SubR c1 X.toArray (S [46, 46]) (pre.length + u.length + 1) ps → SubR c1 X.toArray (S [46, 46]) pre.length (cut X.toArray pre.length (pre.length + u.length) ++ S [46, 46] :: ps) := fun h =>
        SubR.go (n := 3 * X.toArray.size + 5) (a := pre.length + u.length) (e := pre.length + u.length + 1) hbig' (c1_search _ _ (some (_, _)) (by rw [hsz]; (first | lia | omega)) ⟨by (first | lia | omega), by rw [hsz]; (first | lia | omega), hu, hhit, rfl⟩) (by (first | lia | omega)) h
      have hcutu : flatS (cut X.toArray pre.length (pre.length + u.length)) = u := by
        rw [cut_flat _ (by (first | lia | omega)), hX', List.append_assoc, List.drop_left, Nat.add_sub_cancel_left, List.take_left]
      have hcl := cut_len X.toArray pre.length (pre.length + u.length)
      rcases hcase with ⟨h1, h2⟩ | ⟨h1, h2⟩
      · subst h1; subst h2
        refine ⟨_, go (SubR.stop hbig' (c1_search _ _ none (by rw [hsz]; (first | lia | omega)) fun i h1 h2 => hin i (by (first | lia | omega)) (by rw [hsz] at h2; simp at h2; (first | lia | omega)))), ?_, ?_⟩
        · unfold flatS at hcutu ⊢
          rw [List.flatMap_append, List.flatMap_cons, hcutu]
          have := cut_flat X (a := pre.length + u.length + 1) (b := X.toArray.size) (by rw [hsz]; (first | lia | omega))
          unfold flatS at this
          rw [this, hX', hll]
          have e1 : (pre ++ u ++ (46 :: l' ++ [])).drop (pre.length + u.length + 1) = l' := by
            rw [List.append_nil, show pre ++ u ++ 46 :: l' = (pre ++ u ++ [46]) ++ l' by simp, show pre.length + u.length + 1 = (pre ++ u ++ [46]).length by simp; (first | lia | omega), List.drop_left]
          rw [e1, List.take_of_length_le (by simp; (first | lia | omega))]
          rw [hll] at hdl
          simp [glue, hdl]
        · have := cut_len X.toArray (pre.length + u.length + 1) X.toArray.size
          simp only [List.length_append, List.length_cons, List.length_nil]; (first | lia | omega)
      · have hX2 : pre ++ u ++ [46] ++ (l' ++ [13, 10]) ++ glue [13, 10] ls = X := by rw [hX', hll, h2]; simp
        obtain ⟨ps, a1, a2, a3⟩ := dots_ok ls (pre ++ u ++ [46]) (l' ++ [13, 10]) h1 (fun y hy => hl y (.tail _ hy)) (.inr ⟨pre ++ u ++ [46] ++ l' ++ [13], by simp⟩) (by rw [hX2]; exact hbig) (by
          rw [hX2]
          intro i i1 i2
          simp only [List.length_append, List.length_cons, List.length_nil] at i1 i2
          have hlen : l.length = l'.length + 1 := by rw [hll]; rfl
          by_cases hi : i < pre.length + u.length + l.length + 1
          · exact hin i (by (first | lia | omega)) hi
          · exact hcr h1 i (by (first | lia | omega)) (by (first | lia | omega)))
        rw [hX2] at a1
        have hp : (pre ++ u ++ [46]).length = pre.length + u.length + 1 := by simp; (first | lia | omega)
        rw [hp] at a1
        refine ⟨_, go a1, ?_, ?_⟩
        · unfold flatS at hcutu a2 ⊢
          rw [List.flatMap_append, List.flatMap_cons, hcutu, a2, List.map_cons, hdl, glue_cons (by simpa using h1), hll]
          simp
        · simp only [List.length_append, List.length_cons, List.length_nil] at a3 ⊢; (first | lia | omega)
    · -- a line without
      have hnb : 0 < l.length → ¬ Hit1 X.toArray (pre.length + u.length) := fun h0 hh => by
        have h5 := hh.2
        have h6 := hgetl 0 h0
        rw [Nat.add_zero] at h6
        rw [h6, List.getElem?_eq_getElem h0] at h5
        exact hd (by rw [List.getElem?_eq_getElem h0]; exact congrArg some h5)
      have hdl : dotted l = l := by unfold dotted; rw [if_neg hd]
      rcases hcase with ⟨h1, h2⟩ | ⟨h1, h2⟩
      · subst h1; subst h2
        refine ⟨_, SubR.stop hbig' (c1_search _ _ none (by rw [hsz]; (first | lia | omega)) fun i h1 h2 => ?_), ?_, ?_⟩
        · rw [hsz, List.length_nil] at h2
          rcases Nat.lt_trichotomy i (pre.length + u.length) with h | h | h
          · exact hu i h1 h
          · rw [h]; exact hnb (by (first | lia | omega))
          · exact hin i h (by (first | lia | omega))
        · rw [cut_flat _ (by rw [hsz]; (first | lia | omega)), hX', List.append_nil, List.append_assoc, List.drop_left, List.take_of_length_le (by simp)]
          simp [glue, hdl]
        · have := cut_len X.toArray pre.length X.toArray.size
          simp only [List.length_cons, List.length_nil]; (first | lia | omega)
      · have hX2 : pre ++ (u ++ l ++ [13, 10]) ++ glue [13, 10] ls = X := by rw [hX', h2]; simp
        obtain ⟨ps, a1, a2, a3⟩ := dots_ok ls pre (u ++ l ++ [13, 10]) h1 (fun y hy => hl y (.tail _ hy)) (.inr ⟨pre ++ (u ++ l ++ [13]), by simp⟩) (by rw [hX2]; exact hbig) (by
          rw [hX2]
          intro i i1 i2
          simp only [List.length_append, List.length_cons, List.length_nil] at i1 i2
          rcases Nat.lt_trichotomy i (pre.length + u.length) with h | h | h
          · exact hu i i1 h
          · by_cases h0 : 0 < l.length
            · rw [h]; exact hnb h0
            · exact hcr h1 i (by (first | lia | omega)) (by (first | lia | omega))
          · by_cases hi : i < pre.length + u.length + l.length + 1
            · exact hin i h hi
            · exact hcr h1 i (by (first | lia | omega)) (by (first | lia | omega)))
        rw [hX2] at a1
        refine ⟨ps, a1, ?_, ?_⟩
        · rw [a2, List.map_cons, hdl, glue_cons (by simpa using h1)]
          simp
        · simp only [List.length_cons]; (first | lia | omega)
end Mine
open PySem PySem.Calls PyProof.Rows PySem.W
set_option Elab.async false
set_option autoImplicit false
set_option linter.unusedVariables false
namespace Mine
section
variable {S : Sys} {sc : Scope} {ns : List Str} {base : Heap} {env : Env} {s s' s0 : Shared} {ρ : Ro} {rt : Nat → Addr} {b : Bool} {d : Nat} {q : Md} {p p1 p2 p' : PV} {mg mb : Str → Option Value}

theorem Ev.gconst {f : Str} {fv : Value} {np : Pos} (n : GName S sc f fv) (hr : ∀ h, Rp S h fv p []) (hd : (f == ("__debug__" : Str)) = false := by decide) : Ev S sc ns b d q ρ (.Name f np) p := by
  intro A base env s rt Q R F hQ
  exact n.eval F (hQ fv s [] (Kp.refl F.gd) (hr _) MdOk.nil) hd

theorem IsPat.at {h : Heap} {pa : Addr} {code : Array Nat} (G0 : Gd S S.hT) (G : Gd S h) (x : IsPat S.hT pa code) : IsPat h pa code := by
  obtain ⟨o, fs, T, o', items, n, h1, h2, h3, h4, h5, h6, h7, h8, h9, h10, h11⟩ := x.ex
  refine ⟨o, fs, T, o', items, n, G.top _ _ (fun hm => ?_) h1, h2, h3, h4, h5, h6, h7, G.top _ _ (fun hm => ?_) h8, h9, h10, h11⟩
  · obtain ⟨y, e⟩ := tb_data G0.tab hm
    rw [h1] at e; cases e
    cases h2
  · obtain ⟨y, e⟩ := tb_data G0.tab hm
    rw [h8] at e; cases e; cases h10

theorem join0 (ps : List Str) : Txt.join ⟨#[]⟩ ps = Mine.S (flatS ps) := by
  have e : ps = (ps.map (·.cps.toList)).map Mine.S := by
    rw [List.map_map]
    conv => lhs; rw [← List.map_id ps]
    refine List.map_congr_left fun x _ => ?_
    exact (S_toList x).symm
  have g : ∀ ls : List (List Nat), glue [] ls = ls.flatten := fun ls => by
    induction ls with
    | nil => rfl
    | cons l r ih =>
      cases r with
      | nil => simp [glue]
      | cons m r => rw [glue_cons (by simp), ih]; simp
  have := join_glue [] (ps.map (·.cps.toList))
  rw [← e, g] at this
  exact this.trans (by unfold flatS; rw [List.flatMap_def])

theorem flatS_len (ps : List Str) : (ps.map (·.length)).sum = (flatS ps).length := by
  induction ps with
  | nil => rfl
  | cons x r ih =>
    unfold flatS at ih ⊢
    rw [List.map_cons, List.sum_cons, ih, List.flatMap_cons, List.length_append]
    rfl

theorem Ev.patSub {g : Str} {pa : Addr} {code : Array Nat} {np apos pos : Pos} {e1 e2 : Expr} {rp x : Str} {ps : List Str} {y : List Nat} {q1 : Md} (W : S.Ok mg mb) (n : GName S sc g (.ref pa)) (hpat : IsPat S.hT pa code)
    (ha : Evs S sc ns b d q1 ρ [e1, e2] [.str rp, .str x]) (hrp : rp.cps.contains 92 = false) (hx : x.cps.size ≤ sizeLine) (sub : SubR code x.cps rp 0 ps) (hlen : ps.length ≤ sizeLine) (hy : flatS ps = y) (hsum : y.length ≤ 16777216)
    (hd : (g == ("__debug__" : Str)) = false := by decide)
    (hbase : ∀ env t, attributeBase (.Name g np) "sub" env t = t := by intro _ _; rfl)
    (hfew : ∀ env, ((backTo pos (starEach [e1, e2] env)).all (fun x => !x.1) && (backToKw pos (keywordEach [] env)).all (fun x => x.1.isSome)
      && decide ([e1, e2].length + ([] : List Keyword).length + (if ([] : List Keyword).isEmpty then 0 else 1) < 30)) = true := by intro _; rfl)
    (hline : (apos.endLine == pos.line) = true := by rfl)
    (he : ∀ env, starEach [e1, e2] env = (false, eval e1 env) :: starEach [e2] env := by intro _; rfl)
    (hp : ∀ env, (backTo pos (starEach [e1, e2] env)).any (·.1) = false := by intro _; rfl) :
    Ev S sc ns b d q ρ (.Call (.Attribute (.Name g np) "sub" apos) [e1, e2] [] pos) (.str (Mine.S y)) := by
  intro A base env s rt Q R F hQ
  refine wpAny_Call_method (T := "re.Pattern") (id := "re.Pattern.sub") (hbase env _) (hfew env) hline plainAttrs_pat slot_pat_sub type_pat_sub (n.eval F ?_ hd)
  have P := IsPat.at W.gdT F.gd hpat
  refine ⟨?_, ?_, callWith_builtin (hp env) ?_⟩
  · obtain ⟨o, fs, T, o', items, n, h1, h2, _⟩ := P.ex
    exact ⟨o, h1, h2⟩
  · rintro a ⟨⟩
    obtain ⟨o, fs, T, o', items, n, h1, h2, h3, _⟩ := P.ex
    exact ⟨o, h1, h3⟩
  have hb : backTo pos (starEach [e1, e2] env) = (false, eval e1 env) :: backTo pos (starEach [e2] env) := by rw [he env]; rfl
  have := ha A base env s rt pos (fun vs s' => wpAny (model S.prog S.w) A (PySem.call (.builtin "re.Pattern.sub") ([.ref pa] ++ vs) []) Q No s') R F fun vs s' fp k r _ => ?_
  · rw [hb] at this ⊢
    exact evalArgs_plain this
  · obtain ⟨v1, v2, f1, f2, rfl, rfl, r1, r2⟩ := r.two
    (first | obtain ⟨_, rfl, rfl⟩ := r1.inv | cases r1); (first | obtain ⟨_, rfl, rfl⟩ := r2.inv | cases r2)
    refine sub_ok (IsPat.at W.gdT k.gd hpat) hrp hx sub hlen (by rw [flatS_len, hy]; exact hsum) fun t' h' tk' kk => ?_
    rw [join0, hy]
    exact hQ _ _ [] (k.trans (Kp.of_keeps k.gd kk)) (.str _ _) MdOk.nil
end
end Mine
open PySem PySem.Calls PyProof.Rows PySem.W
set_option Elab.async false
set_option autoImplicit false
set_option linter.unusedVariables false
namespace Mine
section
variable {S : Sys} {sc : Scope} {ns : List Str} {base : Heap} {env : Env} {s s' s0 : Shared} {ρ : Ro} {rt : Nat → Addr} {b : Bool} {d : Nat} {q : Md} {p p1 p2 p' : PV} {mg mb : Str → Option Value}

theorem strsFrom_are : ∀ (l : List Str) (n : Nat), StrsAre (strsFrom n l) l
  | [], _ => .nil
  | x :: l, n => .cons x n (strsFrom_are l (n + 1))

theorem c_split {x y : Str} {ls : List Str} (hy : (y.length == 0) = false) (hl : Txt.split x y = ls) (hx : x.length ≤ sizeLine) (hn : ls.length ≤ sizeLine) : CallOk S b d (.builtin "str.split") [.str x, .str y] (.strs ls) := by
  intro A s vs fp Q R G r h
  obtain ⟨v1, v2, f1, f2, rfl, rfl, r1, r2⟩ := r.two
  (first | obtain ⟨_, rfl, rfl⟩ := r1.inv | cases r1); rename_i t; (first | obtain ⟨_, rfl, rfl⟩ := r2.inv | cases r2); rename_i u
  unfold Txt.split at hl
  cases h1 : (decide (x.length < y.length) || decide (Builtin.Str.strKind x < Builtin.Str.strKind y))
  · cases hf : (Builtin.Str.occurrences x y 0 x.length (x.length + 1)).isEmpty
    · rw [if_neg (ne_true_of_eq_false h1), if_neg (ne_true_of_eq_false hf)] at hl
      refine call_meets F.slot_str_split (typeIs_str _ _ _) F.entry_str_split (F.args_str_split_2 _ _) (meets_str_split_sep x y t u h1 hy hf hx (by rw [hl]; exact hn)) ?_
      rw [hl]
      exact h.list G (Rps.ofStrs (strsFrom_are ls s.toks)) _
    · rw [if_neg (ne_true_of_eq_false h1), if_pos hf] at hl
      subst hl
      exact call_meets F.slot_str_split (typeIs_str _ _ _) F.entry_str_split (F.args_str_split_2 _ _) (meets_str_split_not_found x y t u h1 hy hf) (h.list G (Rps.ofStrs (.cons x t .nil)))
  · rw [if_pos h1] at hl
    subst hl
    exact call_meets F.slot_str_split (typeIs_str _ _ _) F.entry_str_split (F.args_str_split_2 _ _) (meets_str_split_cannot_occur x y t u h1) (h.list G (Rps.ofStrs (.cons x t .nil)))

theorem fold_rep (v : Value) : ∀ (k : Nat) (acc : Array Value), List.foldl (fun x1 x2 => x1 ++ x2) acc (List.replicate k #[v]) = acc ++ (List.replicate k v).toArray
  | 0, acc => by simp
  | k + 1, acc => by
    rw [List.replicate_succ, List.foldl_cons, fold_rep v k, List.replicate_succ]
    apply Array.toList_inj.mp; simp
theorem Rps.rep {h : Heap} {v : Value} (r : Rp S h v p []) : ∀ k, Rps S h (List.replicate k v) (List.replicate k p) []
  | 0 => .nil
  | k + 1 => by rw [List.replicate_succ, List.replicate_succ]; exact .cons (f1 := []) r (Rps.rep r k)

theorem o_lmul {n : Int} (ha : p.atom = true) (h0 : 0 ≤ n) (hn : n ≤ 2 ^ 24) : Op2 S b d (binaryOp .Mult) (.list [p]) (.int n) (.list (List.replicate n.toNat p)) := by
  intro A s v1 v2 f1 f2 Q R G r1 r2 h
  (first | obtain ⟨_, rfl, rfl⟩ := r2.inv | cases r2); rename_i u
  cases r1 with
  | @list l vs _ g1 _ l2 l3 =>
  obtain ⟨v, rfl, rv⟩ := l3.one
  have e0 := rv.atomNil ha
  subst e0
  obtain ⟨k, hl⟩ := id l2
  refine wpAny_binaryOp_repeat_ref (T := "list") (U := "int") (by decide) ⟨_, hl, rfl⟩ (fun s' => typeIs_int s' n u) noFill_list_mul F.fills_int_mul F.slot_int_rmul repeat_list F.slot_int_index.lookup
    (call_meets F.slot_int_rmul (typeIs_int s n u) F.entry_int_rmul (F.args_int_rmul_2 _ _) (int___rmul___int_list n u l [v].toArray k)
      ⟨hl, rfl, ⟨_, hl, rfl⟩, call_meets F.slot_list_mul ⟨_, hl, rfl⟩ F.entry_list_mul (F.args_list_mul_2 _ _)
        (AutoListH.list___mul___list_int_3 l [v].toArray k n u (by simp [Builtin.List.listFitsIndex]; (first | lia | omega)) (by simp; (first | lia | omega)) (by simp [Builtin.List.listTooLong, sizeLine]; (first | lia | omega)))
        ⟨hl, ?_⟩⟩)
  have e : (List.foldl (fun x1 x2 => x1 ++ x2) #[] (List.replicate (if ([v].toArray).isEmpty = true then 0 else n.toNat) [v].toArray)) = (List.replicate n.toNat v).toArray := by
    have := fold_rep v n.toNat #[]
    simpa using this
  rw [e]
  exact h.list G (Rps.rep rv n.toNat)

theorem c_list {ps : List PV} (ha : ps.all (·.atom) = true) (hn : ps.length ≤ sizeLine) : CallOk S b d (.type "list") [.list ps] (.list ps) := by
  intro A s vs fp Q R G r h
  obtain ⟨v, rfl, r'⟩ := r.one
  cases r' with
  | @list l vs _ g1 _ l2 l3 =>
  have e0 := l3.allAtoms ha
  subst e0
  obtain ⟨n, hl⟩ := id l2
  refine call_list_seq (hsz := by rw [List.size_toArray, l3.length]; exact hn) l (.inl rfl) hl rfl rfl fun h' c' hk hD => ?_
  have hsz : s.heap.objs.size ∉ S.TB := fun hm => by obtain ⟨x, e⟩ := tb_data G.tab hm; rw [fresh_size] at e; cases e
  exact h _ _ [s.heap.objs.size] (Kp.of_keeps G hk) (.list hsz ⟨c', hD⟩ (l3.mono fun y hy => by cases hy)) fun y hy => by
    cases hy with
    | head => exact fresh_size _
    | tail _ h => cases h

theorem Ev.frozen {e : Expr} (i : Nat) (hρ : ρ[i]? = some (some (p1, .mut))) (hq : q ≠ .N) (h : Ev S sc ns b d q (ρ.set i (some (p1, .frz))) e p) : Ev S sc ns b d q ρ e p := by
  intro A base env s rt Q R F hQ
  have li : i < ρ.length := (List.getElem?_eq_some_iff.mp hρ).1
  refine h A base env s rt Q R (F.recolour hρ (by intro h; cases h) (by intro h; cases h)) fun v s' fp k r m => hQ v s' fp k r ?_
  cases q with
  | R => trivial
  | N => exact absurd rfl hq
  | F => exact m
  | C =>
    intro x hx
    obtain ⟨m1, m2, m3⟩ := m x hx
    refine ⟨m1, m2, fun j q' k' e' hk' => ?_⟩
    by_cases hji : j = i
    · subst hji
      rw [hρ] at e'; cases e'
      exact m3 j _ .frz (by rw [List.getElem?_set_self li]) (by intro h; cases h)
    · exact m3 j q' k' (by rw [getElem?_set_ne' hji]; exact e') hk'

theorem S1.unpack2 {x y : Str} {px py tp pos : Pos} {tk : Nat} {value : Expr} {Φ : Out → Prop} {q1 : Md} (i j : Nat) (hn : ns[i]? = some x) (hn' : ns[j]? = some y) (h : Ev S sc ns b d q1 ρ value (.tup [p1, p2])) (h1 : p1.atom = true) (h2 : p2.atom = true)
    (hΦ : Φ (.next ((ρ.set i (some (p1, .imm))).set j (some (p2, .imm))))) (nd : ns.Nodup) (hk : locCell sc x = true) (hk' : locCell sc y = true)
    (hs : ∀ env, swapsWithSole [.Tuple [.Name x px, .Name y py] tk tp] value pos.line env = pure false := by intro _; rfl)
    (hw : ∀ env, swappedStores [.Tuple [.Name x px, .Name y py] tk tp] value env = pure none := by intro _; rfl) :
    S1 S sc ns b d ρ (.Assign [.Tuple [.Name x px, .Name y py] tk tp] value pos) Φ := by
  intro A base env s rt Q R F hQ
  refine Assign_Tuple (h A base env s rt _ R F fun v s1 fp k1 r1 _ => ?_) (hs env) (hw env)
  cases r1 with
  | @tup a vs _ fp g1 g2 g3 =>
  obtain ⟨v1, v2, f1, f2, rfl, rfl, r1, r2⟩ := g3.two
  have e1 := r1.atomNil h1
  have e2 := r2.atomNil h2
  subst e1; subst e2
  refine wpAny_assign_Tuple R.hd g2 rfl rfl fun h' hx => ?_
  have kk : ∀ z o, s1.heap.get? z = some o → h'.get? z = some o := fun z o e => hx z o (fresh_ne e) e
  have k2 : Kp S b s { s1 with heap := h' } := k1.trans (Kp.of_keeps k1.gd kk)
  show wpAny _ A (do holding [v2] (PySem.assign (.Name x px) env v1); holding [] (PySem.assign (.Name y py) env v2); pure ()) _ _ _
  refine wpAny_bind (wpAny_holding (assign_Name ?_))
  refine store_ok F k2 nd hn (locCell_or hk) (rt' := rt) (k := .imm) ⟨r1.mono fun z hz => (by cases hz), fun _ _ => rfl, fun z hz => (by cases hz), fun _ _ _ _ _ _ hm => (by cases hm), fun hh => absurd rfl hh⟩ fun s3 n3 => ?_
  obtain ⟨st3, rt3, ro3, F3⟩ := n3
  refine wpAny_bind (wpAny_holding (assign_Name ?_))
  refine store_ok (b := b) F3 (Kp.refl F3.gd) nd hn' (locCell_or hk') (rt' := rt3) (k := .imm) ⟨r2.mono fun z hz => (by cases hz), fun _ _ => rfl, fun z hz => (by cases hz), fun _ _ _ _ _ _ hm => (by cases hm), fun hh => absurd rfl hh⟩ fun s4 n4 => ?_
  exact wpAny_pure (hQ _ .next s4 hΦ ⟨rfl, NextIs.trans st3 ro3 n4⟩)

/-! dicts of texts, written -/
end
end Mine
open PySem PySem.Calls PyProof.Rows PySem.W
set_option Elab.async false
set_option autoImplicit false
set_option linter.unusedVariables false
namespace Mine
section
variable {S : Sys} {sc : Scope} {ns : List Str} {base : Heap} {env : Env} {s s' s0 : Shared} {ρ : Ro} {rt : Nat → Addr} {b : Bool} {d : Nat} {q : Md} {p p1 p2 p' : PV} {mg mb : Str → Option Value}

structure Maker (S : Sys) (mg : Str → Option Value) (c : Addr) (t : Tab) : Prop where
  mem : t ∈ S.tabs
  inj : ∀ t' ∈ S.tabs, t'.P = t.P → t' = t
  hdr : ∀ h, Gd S h → CodeHd h c t.P
  bm : ∀ h, Gd S h → h.BuiltinsAt mg t.P
  gP : mainGlobals ≠ t.P

theorem push_fresh {h : Heap} {o : Obj} {a : Addr} {oa : Obj} (e : h.get? a = some oa) : (h.push o).get? a = some oa := Heap.get?_push_of_some _ e

noncomputable abbrev inFn (name qual : Str) (params : Arguments) (body : List Stmt) (scope : Scope) (clos : List (Str × Addr)) (doc pm cv ctv : Value) : Obj :=
  { cls := .type "function", data := .func (fnX name qual params body scope clos .none .none doc pm none cv ctv) }

theorem make_ok {M : Model} {A : Around} {E : Value → Shared → Prop} {c : Addr} {t : Tab} {name : Str} {params : Arguments} {body : List Stmt} {scope : Scope} {clos : List (Str × Addr)} {pos : Pos} {Q : Value → Shared → Prop}
    (W : S.Ok mg mb) (K : Maker S mg c t) (G : Gd S s.heap) (hge : env.globals = mainGlobals) (hcode : env.code = .ref c) (hcl : closureFor scope env = pure clos) (hline : t.line = pos.line) (hcol : t.col = pos.col)
    (h : ∀ f h' tk doc cv ctv, KeepB S false (fun _ => False) s.heap h' → Gd S h' → s.heap.get? f = none → f ∉ S.TB → h'.get? f = some (inFn name t.qual params body scope clos doc ((mg "__name__").getD .none) cv ctv) → h'.CodeRec cv t.qual → Q (.ref f) { s with heap := h', toks := tk }) :
    wpAny M A (makeFunction name t.qual params (.stmts body) scope env [] [] [] pos pos.line) Q E s := by
  obtain ⟨ps, e, r⟩ := G.tab t K.mem
  have PT : t.P ∈ S.TB := List.mem_map_of_mem K.mem
  have freshTB : ∀ {h' : Heap} {f : Addr}, Gd S h' → h'.get? f = none → f ∉ S.TB := fun g e hm => by obtain ⟨x, e'⟩ := tb_data g.tab hm; rw [e] at e'; cases e'
  rcases r with rfl | ⟨c', rfl, hrec⟩
  · refine makeFunction_K hcl hge (W.nsAt G W.g) hcode (K.hdr _ G) e trivial rfl K.gP (K.bm _ G) fun c' ctv doc h' tk hx hge' hlt hrec htb => ?_
    have neP : ∀ {x : Addr}, x ∉ S.TB → x ≠ t.P := fun hx e => hx (e ▸ PT)
    have fr : h'.get? h'.objs.size = none := fresh_size _
    have kp : KeepB S false (fun _ => False) s.heap h' := fun x o _ hb eo => hx x o (neP (hb.resolve_left (by intro h; cases h))) eo
    have g' : Gd S h' := by
      refine ⟨fun x o hb eo => hx x o (neP hb) (G.top x o hb eo), fun t' ht' => ?_⟩
      by_cases hp : t'.P = t.P
      · have := K.inj t' ht' hp
        subst this
        exact ⟨_, htb, .inr ⟨c', by rw [hline, hcol]; rfl, hrec⟩⟩
      · obtain ⟨ps', e', r'⟩ := G.tab t' ht'
        refine ⟨ps', hx _ _ hp e', r'.imp id fun ⟨c2, e2, e3⟩ => ⟨c2, e2, ?_⟩⟩
        obtain ⟨x, o, vs, tt, q1, q2, q3, q4⟩ := e3
        refine ⟨x, o, vs, tt, q1, hx _ _ (fun he => ?_) q2, q3, q4⟩
        rw [he, e] at q2; (first | obtain ⟨_, rfl, rfl⟩ := q2.inv | cases q2); (first | obtain ⟨_, rfl, rfl⟩ := q3.inv | cases q3); simp at q4
    have sfr : s.heap.get? h'.objs.size = none := by
      cases q : s.heap.get? h'.objs.size with
      | none => rfl
      | some o =>
        by_cases hp : h'.objs.size = t.P
        · rw [← hp, fr] at htb; cases htb
        · have := hx _ _ hp q; rw [fr] at this; cases this
    refine h h'.objs.size _ tk doc (.ref c') ctv (fun x o a b e => push_fresh (kp x o a b e)) (g'.keeps fun x o e => push_fresh e) sfr (freshTB g' fr) (Heap.get?_push_size _ rfl) (hrec.push _)
  · refine makeFunction_hit (cv := .ref c') hcl hge (W.nsAt G W.g) hcode (K.hdr _ G) e ?_ ?_ (K.bm _ G) fun ctv doc h' tk hk hsz => ?_
    · trivial
    · show codeAmong pos [rawInt t.line, rawInt t.col, .ref c'] = _
      unfold rawInt codeAmong
      rw [if_pos (by rw [hline, hcol]; simp)]
    · have fr : h'.get? h'.objs.size = none := fresh_size _
      have g' : Gd S h' := G.keeps hk
      have sfr : s.heap.get? h'.objs.size = none := by
        cases q : s.heap.get? h'.objs.size with
        | none => rfl
        | some o => have := hk _ _ q; rw [fr] at this; cases this
      exact h h'.objs.size _ tk doc (.ref c') ctv (fun x o a b e => push_fresh (hk x o e)) (g'.keeps fun x o e => push_fresh e) sfr (freshTB g' fr) (Heap.get?_push_size _ rfl) ((hrec.keeps hk).push _)

theorem Fm.cellStore {h h' : Heap} {x : Str} {c : Addr} {v : Option Value} (F : Fm S sc ns base env h ρ rt) (hc : env.cells.lookup x = some c) (hs : Heap.SameBut c h h') (hv : h'.IsCell c v)
    (hx : ∀ (i : Nat) (z : PV × Own), ns[i]? = some x → ρ[i]? ≠ some (some z)) : Fm S sc ns base env h' ρ rt := by
  have hco : isCellOf env c := ⟨x, hc⟩
  have hal : ∃ o', h'.get? c = some o' := let ⟨o, e, _⟩ := hv; ⟨o, e⟩
  obtain ⟨g, al⟩ := F.turn (.inr hco) hs hal
  have neL := isCellOf.ne F hco
  refine ⟨g, F.kind, F.kinds, F.glob, F.blt, F.top, al, F.nsB, ?_, fun c' hc' => ?_, F.cellInj, F.cellsAll, F.len, fun i y p k e1 e2 => ?_⟩
  · obtain ⟨m, n⟩ := F.ns1; exact ⟨m, n.sameBut hs (Ne.symm neL)⟩
  · obtain ⟨a, v', o, e, e'⟩ := F.cellB c' hc'
    by_cases hcc : c' = c
    · exact ⟨a, v, hcc ▸ hv⟩
    · exact ⟨a, v', o, (hs.2 c' hcc).trans e, e'⟩
  · obtain ⟨w, fp, V⟩ := F.vars i y p k e1 e2
    have hy : y ≠ x := fun he => hx i _ (he ▸ e1) e2
    have fpc : ∀ z ∈ fp, z ≠ c := fun z hz e => (V.loc z hz).2 (e ▸ hco)
    refine ⟨w, fp, ?_, V.rp.mono fun z hz o e => (hs.2 z (fpc z hz)).trans e, V.loc, fun hk => ?_, V.sep⟩
    · rcases V.rd with ⟨r1, m', r2, r3⟩ | ⟨r1, c', r2, o, r3, r4⟩
      · exact .inl ⟨r1, m', r2.sameBut hs (Ne.symm neL), r3⟩
      · have : c' ≠ c := fun e => hy (F.cellInj y x c (e ▸ r2) hc)
        exact .inr ⟨r1, c', r2, o, (hs.2 c' this).trans r3, r4⟩
    · obtain ⟨o1, o2, ⟨ob, o3, o4⟩, fp', o5, o6⟩ := V.own hk
      exact ⟨o1, o2, ⟨ob, (hs.2 _ (fpc _ (by rw [o5]; exact .head _))).trans o3, o4⟩, fp', o5, o6⟩
end
end Mine
open PySem PySem.Calls PyProof.Rows PySem.W
set_option Elab.async false
set_option autoImplicit false
set_option linter.unusedVariables false
namespace Mine
section
variable {S : Sys} {sc : Scope} {ns : List Str} {base : Heap} {env : Env} {s s' s0 : Shared} {ρ : Ro} {rt : Nat → Addr} {b : Bool} {d : Nat} {q : Md} {p p1 p2 p' : PV} {mg mb : Str → Option Value}

theorem lookup_of_mem {l : List (Str × Value)} (nd : (l.map (·.1)).Nodup) {x : Str} {v : Value} (h : (x, v) ∈ l) : l.lookup x = some v := by
  induction l with
  | nil => cases h
  | cons y l ih =>
    obtain ⟨k, w⟩ := y
    rw [List.lookup_cons]
    rw [List.map_cons, List.nodup_cons] at nd
    rcases List.mem_cons.mp h with e | h
    · cases e; simp
    · have : (x == k) = false := by
        refine beq_eq_false_iff_ne.mpr fun e => nd.1 ?_
        rw [← e]
        exact List.mem_map_of_mem (f := (·.1)) h
      rw [this]
      exact ih nd.2 h

theorem lookup_zip {pn : List Str} {vs : List Value} (nd : pn.Nodup) (hl : vs.length = pn.length) {i : Nat} {x : Str} {v : Value} (h1 : pn[i]? = some x) (h2 : vs[i]? = some v) : (pn.zip vs).reverse.lookup x = some v := by
  refine lookup_of_mem ?_ ?_
  · rw [List.map_reverse, List.map_fst_zip (by (first | lia | omega))]
    unfold List.Nodup
    rw [List.pairwise_reverse]
    exact nd.imp fun h => Ne.symm h
  · rw [List.mem_reverse]
    have : (pn.zip vs)[i]? = some (x, v) := by rw [List.getElem?_zip_eq_some]; exact ⟨h1, h2⟩
    exact List.mem_of_getElem? this

theorem store_loc {A : Around} {i : Nat} {x : Str} {v : Value} {Q : Unit → Shared → Prop} (F : Fm S sc ns base env s.heap ρ rt) (nd : ns.Nodup) (hn : ns[i]? = some x) (hk : sc.names.lookup x = some .local) (r : Rp S s.heap v p [])
    (h : ∀ h' tk rt', Heap.SameBut env.locals s.heap h' → Fm S sc ns base env h' (ρ.set i (some (p, .imm))) rt' → Q () { s with heap := h', toks := tk }) : wpAny (model S.prog S.w) A (storeName env x v) Q No s := by
  have kx := F.kindOf' _ hk (by intro h; cases h)
  obtain ⟨m, n⟩ := F.ns1
  refine wpAny_storeName_local kx n (fun h' n' hs => ?_) (by rw [F.kind]; rfl)
  have := F.stored (b := true) (Kp.refl F.gd) nd hn (rt' := rt) (k := .imm) ⟨r, fun _ _ => rfl, fun z hz => (by cases hz), fun _ _ _ _ _ _ hm => (by cases hm), fun hh => absurd rfl hh⟩ (.inl rfl) hs (.inl ⟨kx, _, n', by simp⟩) ⟨_, n'⟩ (fun c hc => ?_) (fun y w hy r => ?_) (s.toks + 1)
  · obtain ⟨_, rt', _, F'⟩ := this
    exact h h' _ rt' hs F'
  · obtain ⟨_, v, o, e, e2⟩ := F.cellB c hc
    exact ⟨v, o, (hs.2 c (isCellOf.ne F hc)).trans e, e2⟩
  · rcases r with ⟨r1, m', r2, r3⟩ | ⟨r1, c, r2, o, r3, r4⟩
    · refine .inl ⟨r1, _, n', ?_⟩
      have : m' y = m y := ns_unique r2 n y
      simp [hy, ← this, r3]
    · exact .inr ⟨r1, c, r2, o, (hs.2 c (isCellOf.ne F ⟨y, r2⟩)).trans r3, r4⟩

theorem call_named {A : Around} {f : Addr} {g : Str} {np pos : Pos} {e : Expr} {es : List Expr} {ps : List PV} {Q : Value → Shared → Prop} {q1 : Md} (R : Room d A) (F : Fm S sc ns base env s.heap ρ rt) (rd : Reads env s.heap g (.ref f)) (hf : FnAt f s.heap) (hTB : f ∉ S.TB)
    (ha : Evs S sc ns b d q1 ρ (e :: es) ps) (h : ∀ vs s' fp, Kp S b s s' → Rps S s'.heap vs ps fp → wpAny (model S.prog S.w) A (call (.ref f) vs) Q No s') (hd : (g == ("__debug__" : Str)) = false := by decide)
    (he : ∀ env, starEach (e :: es) env = (false, eval e env) :: starEach es env := by intro _; rfl) (hp : ∀ env, (backTo pos (starEach es env)).any (·.1) = false := by intro _; rfl) :
    wpAny (model S.prog S.w) A (eval (.Call (.Name g np) (e :: es) [] pos) env) Q No s := by
  refine wpAny_Call_NameR ?_
  have go : wpAny (model S.prog S.w) A (callWith pos (.ref f) [] (backTo pos (starEach (e :: es) env)) []) Q No s := by
    refine callWith_F hf (ha A base env s rt pos _ R F fun vs s' fp k r _ => ⟨?_, h vs s' fp k r⟩) (he env) (hp env)
    obtain ⟨oc, od, fd, sl, e⟩ := hf
    exact ⟨oc, od, fd, sl, k.keep _ _ hTB e⟩
  rcases rd with ⟨a, m, n, e⟩ | ⟨a, c, e, n⟩
  · exact wpAny_Name (wpAny_loadName_local F.kind a n e go) hd
  · exact wpAny_Name (loadCF F.kind a e n go) hd

theorem inner_call {A : Around} {f : Addr} {name qual : Str} {params : Arguments} {body : List Stmt} {scope : Scope} {clos : List (Str × Addr)} {doc pm cv ctv : Value} {pn fn rest : List Str} {ps qs : List PV} {vs : List Value} {fp : List Addr} {Q : Value → Shared → Prop}
    (W : S.Ok mg mb) (R : Room (d + 1) A) (G : Gd S s.heap) (hfn : s.heap.get? f = some (inFn name qual params body scope clos doc pm cv ctv)) (hcd : s.heap.CodeRec cv qual)
    (hbind : bindArgs (fnX name qual params body scope clos .none .none doc pm none cv ctv) ⟨vs, []⟩ = pure (pn.zip vs)) (hcell : ∀ x ∈ scope.names, x.2 ≠ .cell) (hloc : ∀ x ∈ pn, scope.names.lookup x = some .local)
    (hk : scope.kind = .function) (hco : scope.isCoroutine = false) (hgen : scope.isGenerator = false) (nd : (pn ++ fn ++ rest).Nodup) (hps : ps.length = pn.length) (r : Rps S s.heap vs ps fp) (hqs : qs.length = fn.length)
    (hcl : ∀ n c, clos.lookup n = some c → S.hT.get? c = none ∧ ∃ v, s.heap.IsCell c v) (hinj : ∀ n n' c, clos.lookup n = some c → clos.lookup n' = some c → n = n') (hfp : ∀ z ∈ fp, ∀ n, clos.lookup n ≠ some z)
    (hfree : ∀ (i : Nat) (x : Str) (p : PV), fn[i]? = some x → qs[i]? = some p → scope.names.lookup x = some .free ∧ (x == ("__classdict__" : Str)) = false ∧ ∃ c v fpv, clos.lookup x = some c ∧ s.heap.IsCell c (some v) ∧ Rp S s.heap v p fpv ∧ ∀ z ∈ fpv, ∀ n, clos.lookup n ≠ some z)
    (h : ∀ env h₀ tk, env.cells = clos → env.locals = s.heap.objs.size → (∀ a o, s.heap.get? a = some o → h₀.get? a = some o) → (∀ x, env.kindOf x = scope.names.lookup x) → Room d (A.deeper env) →
      Fm S scope (pn ++ fn ++ rest) S.hT env h₀ (ps.map (fun p => some (p, Own.imm)) ++ qs.map (fun p => some (p, Own.imm)) ++ List.replicate rest.length none) (fun _ => 0) →
      wpAny (model S.prog S.w) (A.deeper env) (execs body env) (fun f s' => Q (match f with | .ret v => v | _ => .none) s') No { s with heap := h₀, toks := tk }) :
    wpAny (model S.prog S.w) A (call (.ref f) vs) Q No s := by
  refine wpAny_call ?_
  have hvl : vs.length = pn.length := r.length.trans hps
  refine codeAny_call_def R.lt hfn rfl (W.lim G) hcd rfl (.of_eq hbind) hcell (fun x hx => hloc x.1 (List.of_mem_zip hx).1) (fun h₀ hns hkp => ?_) hco hgen hk
  generalize hen : callEnv (fnX name qual params body scope clos .none .none doc pm none cv ctv) s.heap.objs.size f = env
  have eS : env.scope = scope := by rw [← hen]; rfl
  have eL : env.locals = s.heap.objs.size := by rw [← hen]; rfl
  have eC : env.cells = clos := by rw [← hen]; rfl
  have kO : ∀ x, env.kindOf x = scope.names.lookup x := fun x => by unfold Env.kindOf; rw [eS]
  have R' : Room d (A.deeper env) := ⟨R.hd, by have := R.depth; show A.depth + 1 + d < _; (first | lia | omega), by have := R.units; show A.units + 3 + 4 * d + 120 < _; (first | lia | omega)⟩
  have fr : s.heap.get? s.heap.objs.size = none := fresh_size _
  have g₀ : Gd S h₀ := G.keeps hkp
  have isC : ∀ {c}, isCellOf env c → ∃ n, clos.lookup n = some c := fun ⟨n, e⟩ => ⟨n, eC ▸ e⟩
  have impl : ∀ {i : Nat} {p : PV} {k : Own}, (ps.map (fun p => some (p, Own.imm)) ++ qs.map (fun p => some (p, Own.imm)) ++ List.replicate rest.length none)[i]? = some (some (p, k)) → k = .imm ∧ (ps ++ qs)[i]? = some p := fun {i p k} e => by
    rw [← List.map_append] at e
    rcases Nat.lt_or_ge i (ps ++ qs).length with h | h
    · rw [List.getElem?_append_left (by simpa using h), List.getElem?_map] at e
      cases hp : (ps ++ qs)[i]? with
      | none => rw [hp] at e; cases e
      | some z => rw [hp] at e; cases e; exact ⟨rfl, rfl⟩
    · rw [List.getElem?_append_right (by simpa using h)] at e
      have := List.mem_of_getElem? e
      rw [List.mem_replicate] at this
      cases this.2
  have sepOk : ∀ {fp : List Addr} {i : Nat}, ∀ j q k', (ps.map (fun p => some (p, Own.imm)) ++ qs.map (fun p => some (p, Own.imm)) ++ List.replicate rest.length none)[j]? = some (some (q, k')) → k' ≠ Own.imm → j ≠ i → (fun _ : Nat => (0 : Addr)) j ∉ fp := fun j q k' e hk' _ => absurd (impl e).1 hk'
  have F : Fm S scope (pn ++ fn ++ rest) S.hT env h₀ (ps.map (fun p => some (p, Own.imm)) ++ qs.map (fun p => some (p, Own.imm)) ++ List.replicate rest.length none) (fun _ => 0) := by
    refine ⟨g₀, by rw [eS]; exact hk, fun x => .inl (kO x), by rw [← hen]; rfl, by rw [← hen]; rfl, fun b o e => ⟨o, e⟩, TabOk.alive g₀ g₀.top, ?_, ⟨_, by rw [eL]; exact hns⟩, fun c hc => ?_, fun n n' c e e' => ?_, fun x e => ?_, ?_, ?_⟩
    · rw [eL]
      cases q : S.hT.get? s.heap.objs.size with
      | none => rfl
      | some o => obtain ⟨o', e'⟩ := TabOk.alive G G.top _ o q; rw [fr] at e'; cases e'
    · obtain ⟨n, e⟩ := isC hc
      obtain ⟨a, v, o, e1, e2⟩ := hcl n c e
      exact ⟨a, v, o, hkp _ _ e1, e2⟩
    · exact hinj n n' c (eC ▸ e) (eC ▸ e')
    · exact absurd rfl (hcell _ (mem_of_lookup' e))
    · simp [hps, hqs]
    · intro i x p k ex e
      obtain ⟨rfl, hp⟩ := impl e
      rcases Nat.lt_or_ge i ps.length with hi | hi
      · rw [List.getElem?_append_left hi] at hp
        rw [List.getElem?_append_left (by simp; (first | lia | omega)), List.getElem?_append_left (by (first | lia | omega))] at ex
        obtain ⟨v, fv, ev, rv, hfv⟩ := r.get hp
        have hx := List.mem_of_getElem? ex
        have ndp : pn.Nodup := (List.nodup_append.mp (List.nodup_append.mp nd).1).1
        refine ⟨v, fv, .inl ⟨by rw [kO]; exact hloc x hx, _, by rw [eL]; exact hns, lookup_zip ndp hvl ex ev⟩, rv.mono fun z hz o e => hkp z o e, fun z hz => ⟨fun e => ?_, fun hc => ?_⟩, fun hh => absurd rfl hh, sepOk⟩
        · obtain ⟨_, o, ho⟩ := rv.lives z hz
          rw [e, eL, fr] at ho; cases ho
        · obtain ⟨n, e⟩ := isC hc
          exact hfp z (hfv z hz) n e
      · rw [List.getElem?_append_right hi] at hp
        have hq : i - ps.length < qs.length := (List.getElem?_eq_some_iff.mp hp).1
        rw [List.getElem?_append_left (by simp; (first | lia | omega)), List.getElem?_append_right (by (first | lia | omega)), ← hps] at ex
        obtain ⟨hfk, hcd', c, v, fv, e1, e2, rv, hfv⟩ := hfree _ x p ex hp
        obtain ⟨oc, eo, ed⟩ := e2
        refine ⟨v, fv, .inr ⟨.inr ⟨by rw [kO]; exact hfk, hcd'⟩, c, by rw [eC]; exact e1, oc, hkp _ _ eo, ed⟩, rv.mono fun z hz o e => hkp z o e, fun z hz => ⟨fun e => ?_, fun hc => ?_⟩, fun hh => absurd rfl hh, sepOk⟩
        · obtain ⟨_, o, ho⟩ := rv.lives z hz
          rw [e, eL, fr] at ho; cases ho
        · obtain ⟨n, e⟩ := isC hc
          exact hfv z hz n e
  exact wpAny_mono (E := No) (h env h₀ _ eC eL hkp kO R' F) (fun _ _ h => h) fun _ _ h => h.elim
end
end Mine
open PySem PySem.Calls PyProof.Rows PySem.W
set_option Elab.async false
set_option autoImplicit false
set_option linter.unusedVariables false
namespace Mine
noncomputable abbrev PW : Program := PySem.Challenge.pw_re0073_02
end Mine
open PySem PySem.Calls PyProof.Rows PySem.W
set_option Elab.async false
set_option autoImplicit false
set_option linter.unusedVariables false
namespace Mine

noncomputable def stBody : Stmt → List Stmt
  | .FunctionDef _ _ b _ _ _ _ _ _ _ => b
  | _ => []
noncomputable def stScope : Stmt → Scope
  | .FunctionDef _ _ _ _ _ _ s _ _ _ => s
  | _ => default
noncomputable def stParams : Stmt → Arguments
  | .FunctionDef _ p _ _ _ _ _ _ _ _ => p
  | _ => default
noncomputable def stPos : Stmt → Pos
  | .FunctionDef _ _ _ _ _ _ _ _ _ p => p
  | _ => default
noncomputable def stAt (l : List Stmt) (k : Nat) : Stmt := match l.drop k with
  | st :: _ => st
  | [] => .Pass default
noncomputable def topAt (k : Nat) : Stmt := stAt PW.main.body k

noncomputable def dsum (n : Nat) : List Int → Int
  | [] => 0
  | d :: r => d + 2 ^ n * dsum n r
theorem dsum_append (n : Nat) : ∀ a b : List Int, dsum n (a ++ b) = dsum n a + 2 ^ (n * a.length) * dsum n b
  | [], b => by simp [dsum]
  | d :: a, b => by
    rw [List.cons_append, dsum, dsum_append n a b, dsum, List.length_cons, Nat.mul_add, Nat.mul_one, Int.pow_add]
    rw [Int.mul_add, ← Int.mul_assoc, Int.mul_comm (2 ^ n) (2 ^ (n * a.length))]
    (first | lia | omega)
noncomputable def sub (ds : List Int) (l r : Nat) : List Int := (ds.drop l).take (r - l)
theorem sub_split (ds : List Int) {l m r : Nat} (h1 : l ≤ m) (h2 : m ≤ r) : sub ds l r = sub ds l m ++ sub ds m r := by
  unfold sub
  have e1 : r - l = (m - l) + (r - m) := by (first | lia | omega)
  have e2 : ds.drop m = (ds.drop l).drop (m - l) := by rw [List.drop_drop]; congr 1; (first | lia | omega)
  rw [e1, List.take_add, e2]
theorem sub_len (ds : List Int) {l r : Nat} (h1 : l ≤ r) (h2 : r ≤ ds.length) : (sub ds l r).length = r - l := by
  unfold sub; rw [List.length_take, List.length_drop]; (first | lia | omega)
theorem sub_one (ds : List Int) {l : Nat} {d : Int} (h : ds[l]? = some d) (n : Nat) : dsum n (sub ds l (l + 1)) = d := by
  unfold sub
  obtain ⟨h1, h2⟩ := List.getElem?_eq_some_iff.mp h
  rw [Nat.add_sub_cancel_left, List.drop_eq_getElem_cons h1, List.take_succ_cons, List.take_zero, h2]
  simp [dsum]

section
variable {S : Sys} {sc : Scope} {ns : List Str} {base : Heap} {env : Env} {s s' s0 : Shared} {ρ : Ro} {rt : Nat → Addr} {b : Bool} {d : Nat} {q : Md} {p p1 p2 p' : PV} {mg mb : Str → Option Value}

theorem Kp.store {L : Addr} {s1 : Shared} {h' : Heap} {tk : Nat} (k : Kp S true s s1) (hL : s.heap.get? L = none) (hs : Heap.SameBut L s1.heap h') (g : Gd S h') : Kp S true s { s1 with heap := h', toks := tk } := by
  obtain ⟨h1, t1, rfl, kk, _⟩ := k
  refine ⟨h', tk, rfl, fun x o a b e => ?_, g⟩
  have : x ≠ L := fun he => by rw [he, hL] at e; cases e
  rw [hs.2 x this]
  exact kk x o a b e

theorem Ev.go {A : Around} {e : Expr} {Q : Value → Shared → Prop} (R : Room d A) (F : Fm S sc ns base env s.heap ρ rt) (h : Ev S sc ns b d q ρ e p) (hQ : ∀ v s' fp, Kp S b s s' → Rp S s'.heap v p fp → MdOk q s env ρ rt fp → Q v s') : wpAny (model S.prog S.w) A (eval e env) Q No s := h A base env s rt Q R F hQ
theorem Tr.go {A : Around} {e : Expr} {t : Bool} {Q : Bool → Shared → Prop} (R : Room d A) (F : Fm S sc ns base env s.heap ρ rt) (h : Tr S sc ns b d ρ e t) (hQ : ∀ s', Kp S b s s' → Q t s') : wpAny (model S.prog S.w) A (isTrue e env (eval e env)) Q No s := h A base env s rt Q R F hQ

theorem Op2.to {f : Value → Value → Sem Value} {x y : Int} (o : Op2 S b d f p1 p2 (.int x)) (e : x = y) : Op2 S b d f p1 p2 (.int y) := e ▸ o
theorem Room.mono {d d' : Nat} {A : Around} (r : Room d A) (h : d' ≤ d) : Room d' A := ⟨r.hd, by have := r.depth; (first | lia | omega), by have := r.units; (first | lia | omega)⟩

noncomputable abbrev d2iIn : Stmt := stAt (stBody (topAt 6)) 0

structure DCtx (S : Sys) (h : Heap) (f cd ci cn : Addr) (qual : Str) (vd : Value) (fpd : List Addr) (ds : List Int) (n : Nat) (doc pm cv ctv : Value) : Prop where
  gd : Gd S h
  fn : h.get? f = some (inFn "inner" qual (stParams d2iIn) (stBody d2iIn) (stScope d2iIn) [("n", cn), ("inner", ci), ("digits", cd)] doc pm cv ctv)
  fTB : f ∉ S.TB
  code : h.CodeRec cv qual
  cD : h.IsCell cd (some vd)
  cI : h.IsCell ci (some (.ref f))
  cN : ∃ t, h.IsCell cn (some (.int n t))
  hT : S.hT.get? cd = none ∧ S.hT.get? ci = none ∧ S.hT.get? cn = none
  ne : cd ≠ ci ∧ cd ≠ cn ∧ ci ≠ cn
  rd : Rp S h vd (.ints ds) fpd

theorem DCtx.keeps {h h' : Heap} {f cd ci cn : Addr} {qual : Str} {vd : Value} {fpd : List Addr} {ds : List Int} {n : Nat} {doc pm cv ctv : Value} (C : DCtx S h f cd ci cn qual vd fpd ds n doc pm cv ctv) (g : Gd S h') (k : ∀ a o, h.get? a = some o → h'.get? a = some o) :
    DCtx S h' f cd ci cn qual vd fpd ds n doc pm cv ctv :=
  ⟨g, k _ _ C.fn, C.fTB, C.code.keeps k, C.cD.keeps k, C.cI.keeps k, let ⟨t, e⟩ := C.cN; ⟨t, e.keeps k⟩, C.hT, C.ne, C.rd.mono fun b _ o e => k b o e⟩

theorem notCell {h : Heap} {ds : List Int} {v : Value} {fp : List Addr} {c : Addr} {w : Option Value} (r : Rp S h v (.ints ds) fp) (hc : h.IsCell c w) : c ∉ fp := fun hm => by
  obtain ⟨a, vs, _, rfl, _, ⟨o, e, _, n, hd⟩, _⟩ := r.ints
  obtain ⟨o', e', hd'⟩ := hc
  cases hm with
  | head => rw [e] at e'; cases e'; rw [hd] at hd'; cases hd'
  | tail _ h => cases h

theorem look3 {cn ci cd : Addr} {n : Str} {c : Addr} (e : List.lookup n [(("n" : Str), cn), ("inner", ci), ("digits", cd)] = some c) : (n = "n" ∧ c = cn) ∨ (n = "inner" ∧ c = ci) ∨ (n = "digits" ∧ c = cd) := by
  rw [List.lookup_cons] at e
  cases h1 : n == "n" with
  | true => rw [h1] at e; cases e; exact .inl ⟨eq_of_beq h1, rfl⟩
  | false =>
    rw [h1, List.lookup_cons] at e
    cases h2 : n == "inner" with
    | true => rw [h2] at e; cases e; exact .inr (.inl ⟨eq_of_beq h2, rfl⟩)
    | false =>
      rw [h2, List.lookup_cons] at e
      cases h3 : n == "digits" with
      | true => rw [h3] at e; cases e; exact .inr (.inr ⟨eq_of_beq h3, rfl⟩)
      | false => rw [h3] at e; cases e

structure DFit (ds : List Int) (n : Nat) : Prop where
  len : ds.length < 2 ^ 20
  nlt : n < 2 ^ 20
  bits : ∀ l r k, l ≤ r → r ≤ ds.length → k ≤ ds.length → (Builtin.Int.intBits (dsum n (sub ds l r)) : Int) + k * n ≤ 2 ^ 27

theorem d2i_inner {f cd ci cn : Addr} {qual : Str} {vd : Value} {fpd : List Addr} {ds : List Int} {n : Nat} {doc pm cv ctv : Value} (W : S.Ok mg mb) (fit : DFit ds n) : ∀ (k l r : Nat), r = l + k + 1 → r ≤ ds.length → ∀ (A : Around) (s : Shared) (t1 t2 : Tok) (Q : Value → Shared → Prop),
    Room (k + 1) A → DCtx S s.heap f cd ci cn qual vd fpd ds n doc pm cv ctv → Post S true s (.int (dsum n (sub ds l r))) Q → wpAny (model S.prog S.w) A (call (.ref f) [.int l t1, .int r t2]) Q No s := by
  intro k
  induction k using Nat.strongRecOn with
  | _ k ih =>
  intro l r hr hrl A s t1 t2 Q R C hQ
  have hll : l < ds.length := by (first | lia | omega)
  obtain ⟨tn, cNv⟩ := C.cN
  refine inner_call (d := k) W R C.gd C.fn C.code (pn := ["L", "R"]) (fn := ["digits", "n"]) (rest := ["mid", "shift"]) (ps := [.int l, .int r]) (qs := [.ints ds, .int n]) (fp := []) rfl (by decide) (by decide) rfl rfl rfl (by decide) rfl
    (.cons (f1 := []) (.int _ _) (.cons (f1 := []) (.int _ _) .nil)) rfl (fun n c e => ?_) (fun n n' c e e' => ?_) (fun z hz => by cases hz) (fun i x p e e' => ?_) fun env h₀ tk eC eL kp kO R' F => ?_
  · rcases look3 e with ⟨_, rfl⟩ | ⟨_, rfl⟩ | ⟨_, rfl⟩
    · exact ⟨C.hT.2.2, _, cNv⟩
    · exact ⟨C.hT.2.1, _, C.cI⟩
    · exact ⟨C.hT.1, _, C.cD⟩
  · rcases look3 e with ⟨rfl, rfl⟩ | ⟨rfl, rfl⟩ | ⟨rfl, rfl⟩ <;> rcases look3 e' with ⟨rfl, h⟩ | ⟨rfl, h⟩ | ⟨rfl, h⟩ <;> first | rfl | (exfalso; first | exact C.ne.1 h | exact C.ne.2.1 h | exact C.ne.2.2 h | exact C.ne.1 h.symm | exact C.ne.2.1 h.symm | exact C.ne.2.2 h.symm)
  · have hi : i < 2 := (List.getElem?_eq_some_iff.mp e).1
    have : i = 0 ∨ i = 1 := by (first | lia | omega)
    rcases this with rfl | rfl
    · cases e; cases e'
      refine ⟨by decide, by decide, cd, vd, fpd, rfl, C.cD, C.rd, fun z hz m hm => ?_⟩
      rcases look3 hm with ⟨_, rfl⟩ | ⟨_, rfl⟩ | ⟨_, rfl⟩
      · exact notCell C.rd cNv hz
      · exact notCell C.rd C.cI hz
      · exact notCell C.rd C.cD hz
    · cases e; cases e'
      exact ⟨by decide, by decide, cn, _, [], rfl, cNv, .int _ _, fun z hz => by cases hz⟩
  · have hL : s.heap.get? env.locals = none := by rw [eL]; exact fresh_size _
    have k0 : Kp S true s { s with heap := h₀, toks := tk } := Kp.of_keeps C.gd kp
    refine wpAny_execs_cons (wpAny_If (Tr.go (b := true) (t := ((l : Int) + 1 == r)) (s := { s with heap := h₀, toks := tk }) R' F (Tr.cmp (q1 := .R) (q2 := .R) (Ev.op2 (q1 := .R) (q2 := .R) (Ev.var 0 rfl rfl rfl) Ev.cint o_add) (Ev.var 1 rfl rfl rfl) o_eq) fun s1 k1 => ?_))
    have F1 := F.kp k1
    have k01 := k0.trans k1
    by_cases hk : k = 0
    · subst hk
      have e1 : ((l : Int) + 1 == r) = true := by rw [hr]; simp
      rw [e1]
      simp only [if_true]
      refine wpAny_execs_cons (wpAny_Return_some ?_)
      have hd : ds[l]? = some (ds[l]) := List.getElem?_eq_getElem hll
      refine Ev.go (b := true) (q := .F) (p := .int ds[l]) R' F1 (Ev.idxA (q0 := .R) (q1 := .R) (ps := ds.map .int) (k := l) (Ev.var 2 rfl rfl rfl) (Ev.var 0 rfl rfl rfl) (by (first | lia | omega)) (by have := fit.len; (first | lia | omega)) (by rw [List.getElem?_map, Int.toNat_natCast, hd]; rfl) rfl) fun v s2 fp k2 r2 _ => ?_
      have : dsum n (sub ds l r) = ds[l] := by rw [hr]; exact sub_one ds hd n
      rw [this] at hQ
      exact hQ v s2 fp (k01.trans k2) r2 fun z hz => by (first | obtain ⟨_, rfl, rfl⟩ := r2.inv | cases r2); cases hz
    · have e1 : ((l : Int) + 1 == r) = false := by
        refine beq_eq_false_iff_ne.mpr ?_
        (first | lia | omega)
      rw [e1]
      simp only [Bool.false_eq_true, if_false]
      refine wpAny_execs_nil ?_
      obtain ⟨m, hm⟩ : ∃ m, m = (l + r) / 2 := ⟨_, rfl⟩
      have hm1 : l < m := by (first | lia | omega)
      have hm2 : m < r := by (first | lia | omega)
      have fl := fit.len
      have fnn := fit.nlt
      have em : ((l : Int) + r).fdiv (2 ^ (1 : Int).toNat) = (m : Int) := by
        rw [Int.fdiv_eq_ediv_of_nonneg _ (by decide)]
        show ((l : Int) + r) / 2 = m
        (first | lia | omega)
      refine wpAny_execs_cons (wpAny_Assign_Name (Ev.go (b := true) (q := .R) (p := .int m) R' F1 (Ev.op2 (q1 := .R) (q2 := .R) (Ev.op2 (q1 := .R) (q2 := .R) (Ev.var 0 rfl rfl rfl) (Ev.var 1 rfl rfl rfl) o_add) Ev.cint ((o_shr (by decide)).to em)) fun v s2 fp k2 r2 _ => ?_))
      (first | obtain ⟨_, rfl, rfl⟩ := r2.inv | cases r2)
      refine store_loc (i := 4) (F1.kp k2) (by decide) rfl (by decide) (.int _ _) fun h3 tk3 rt3 hs3 F3 => ?_
      have k03 : Kp S true s { s2 with heap := h3, toks := tk3 } := (k01.trans k2).store hL hs3 F3.gd
      have es : ((m : Int) - l) * n = (((m - l) * n : Nat) : Int) := by rw [Int.natCast_mul, Int.ofNat_sub (by (first | lia | omega))]
      have hmul : IntMulOk ((m : Int) - l) n := .of_left (intBits_le_64 (by (first | lia | omega)) (by (first | lia | omega)))
      refine wpAny_execs_cons (wpAny_Assign_Name (Ev.go (b := true) (q := .R) (p := .int (((m - l) * n : Nat) : Int)) (s := { s2 with heap := h3, toks := tk3 }) R' F3 (Ev.op2 (q1 := .R) (q2 := .R) (Ev.op2 (q1 := .R) (q2 := .R) (Ev.var 4 rfl rfl rfl) (Ev.var 0 rfl rfl rfl) o_sub) (Ev.var 3 rfl rfl rfl) ((o_mul hmul).to es)) fun v s4 fp k4 r4 _ => ?_))
      (first | obtain ⟨_, rfl, rfl⟩ := r4.inv | cases r4)
      refine store_loc (i := 5) (F3.kp k4) (by decide) rfl (by decide) (.int _ _) fun h5 tk5 rt5 hs5 F5 => ?_
      have k05 : Kp S true s { s4 with heap := h5, toks := tk5 } := (k03.trans k4).store hL hs5 F5.gd
      have C5 := C.keeps F5.gd k05.keeps
      have rdI : ∀ {h : Heap}, h.IsCell ci (some (.ref f)) → Reads env h "inner" (.ref f) := fun hc => .inr ⟨.inr ⟨by rw [kO]; rfl, by decide⟩, ci, by rw [eC]; rfl, hc⟩
      have fnI : ∀ {h : Heap}, DCtx S h f cd ci cn qual vd fpd ds n doc pm cv ctv → FnAt f h := fun C => ⟨_, _, _, _, C.fn⟩
      refine wpAny_execs_cons (wpAny_Return_some (wpAny_BinOp (wpAny_BinOp (call_named (s := { s4 with heap := h5, toks := tk5 }) (b := true) R' F5 (rdI C5.cI) (fnI C5) C.fTB (Evs.cons (q := .R) (Ev.var 4 rfl rfl rfl) (Evs.cons (Ev.var 1 rfl rfl rfl) Evs.nil)) fun vs s6 fp k6 r6 => ?_))))
      obtain ⟨v1, v2, f1, f2, rfl, rfl, r61, r62⟩ := r6.two
      (first | obtain ⟨_, rfl, rfl⟩ := r61.inv | cases r61); (first | obtain ⟨_, rfl, rfl⟩ := r62.inv | cases r62)
      have k06 := k05.trans k6
      refine ih (r - m - 1) (by (first | lia | omega)) m r (by (first | lia | omega)) hrl _ s6 _ _ _ (R'.mono (by (first | lia | omega))) (C.keeps k6.gd k06.keeps) fun v7 s7 fp7 k7 r7 _ => ?_
      (first | obtain ⟨_, rfl, rfl⟩ := r7.inv | cases r7)
      have k07 := k06.trans k7
      have F7 := (F5.kp k6).kp k7
      refine Ev.go (b := true) (q := .R) (p := .int (((m - l) * n : Nat) : Int)) R' F7 (Ev.var 5 rfl rfl rfl) fun v8 s8 fp8 k8 r8 _ => ?_
      (first | obtain ⟨_, rfl, rfl⟩ := r8.inv | cases r8)
      have fitm := fit.bits m r (m - l) (by (first | lia | omega)) hrl (by (first | lia | omega))
      refine (o_shl (S := S) (b := true) (d := k) (x := dsum n (sub ds m r)) (y := (((m - l) * n : Nat) : Int)) (by (first | lia | omega)) (by rw [Int.natCast_mul]; exact fitm)) _ s8 _ _ [] [] _ R' k8.gd (.int _ _) (.int _ _) fun v9 s9 fp9 k9 r9 _ => ?_
      (first | obtain ⟨_, rfl, rfl⟩ := r9.inv | cases r9)
      have k09 := (k07.trans k8).trans k9
      have C9 := C.keeps k9.gd k09.keeps
      refine call_named (s := s9) (b := true) R' ((F7.kp k8).kp k9) (rdI C9.cI) (fnI C9) C.fTB (Evs.cons (q := .R) (Ev.var 0 rfl rfl rfl) (Evs.cons (Ev.var 4 rfl rfl rfl) Evs.nil)) fun vs s10 fp k10 r10 => ?_
      obtain ⟨v1, v2, f1, f2, rfl, rfl, r101, r102⟩ := r10.two
      (first | obtain ⟨_, rfl, rfl⟩ := r101.inv | cases r101); (first | obtain ⟨_, rfl, rfl⟩ := r102.inv | cases r102)
      have k010 := k09.trans k10
      refine ih (m - l - 1) (by (first | lia | omega)) l m (by (first | lia | omega)) (by (first | lia | omega)) _ s10 _ _ _ (R'.mono (by (first | lia | omega))) (C.keeps k10.gd k010.keeps) fun v11 s11 fp11 k11 r11 _ => ?_
      (first | obtain ⟨_, rfl, rfl⟩ := r11.inv | cases r11)
      refine (o_add (S := S) (b := true) (d := k)) _ s11 _ _ [] [] _ R' k11.gd (.int _ _) (.int _ _) fun v12 s12 fp12 k12 r12 _ => ?_
      have ev : dsum n (sub ds m r) * 2 ^ (((m - l) * n : Nat) : Int).toNat + dsum n (sub ds l m) = dsum n (sub ds l r) := by
        rw [sub_split ds (l := l) (m := m) (r := r) (by (first | lia | omega)) (by (first | lia | omega)), dsum_append, sub_len ds (by (first | lia | omega)) (by (first | lia | omega)), Int.toNat_natCast, Nat.mul_comm (m - l) n, Int.mul_comm (dsum n (sub ds m r)), Int.add_comm]
      rw [ev] at r12
      exact hQ v12 s12 fp12 ((k010.trans k11).trans k12) r12 fun z hz => by (first | obtain ⟨_, rfl, rfl⟩ := r12.inv | cases r12); cases hz
end
end Mine
open PySem PySem.Calls PyProof.Rows PySem.W
set_option Elab.async false
set_option autoImplicit false
set_option linter.unusedVariables false
namespace Mine
section
variable {S : Sys} {sc : Scope} {ns : List Str} {base : Heap} {env : Env} {s s' s0 : Shared} {ρ : Ro} {rt : Nat → Addr} {b : Bool} {d : Nat} {q : Md} {p p1 p2 p' : PV} {mg mb : Str → Option Value}

theorem Tr.list {e : Expr} {ps : List PV} {q1 : Md} (h : Ev S sc ns b d q1 ρ e (.list ps)) (hf : (ps.length : Int) < 2 ^ 63) (he : ∀ env t, isTrue e env t = (do let v ← t; standAt e.pos; holding [v] (truthy v)) := by intro _ _; rfl) : Tr S sc ns b d ρ e (!ps.isEmpty) := by
  intro A base env s rt Q R F hQ
  refine wpAny_isTrue_value (h A base env s rt _ R F fun v s1 f k r _ => ?_) (he env _)
  cases r with
  | @list a vs _ fp g1 g2 g3 =>
    have e : vs.toArray.isEmpty = ps.isEmpty := by
      have := g3.length
      cases vs <;> cases ps <;> first | rfl | simp at this
    refine wpAny_truthy_list g2.isList (by rw [List.size_toArray, g3.length]; exact hf) ?_
    rw [e]
    exact hQ _ (k.toks _)

structure TopFn (S : Sys) (mg : Str → Option Value) (k : Nat) (a : Addr) (fd : FuncData) : Prop where
  ob : ∃ o, S.hT.get? a = some o ∧ o.data = .func fd
  code : S.hT.CodeRec fd.code fd.qualname
  body : fd.body = .stmts (stBody (topAt k))
  scope : fd.scope = stScope (topAt k)
  params : fd.params = stParams (topAt k)
  clo : fd.closure = []
  glob : fd.globals = mainGlobals
  blt : fd.builtins = builtinsNs
  dfl : fd.defaults = .none ∧ fd.kwdefaults = .none

theorem bind_ok {fd : FuncData} {P : Arguments} {vs : List Value} {bs : List (Str × Value)} (hp : fd.params = P) (hd : fd.defaults = .none ∧ fd.kwdefaults = .none)
    (h : ∀ fd : FuncData, bindArgs { fd with params := P, defaults := .none, kwdefaults := .none } ⟨vs, []⟩ = pure bs) : bindArgs fd ⟨vs, []⟩ = pure bs := by
  have := h fd
  obtain ⟨d1, d2⟩ := hd
  cases fd
  simp only at hp d1 d2
  subst hp; subst d1; subst d2
  exact this

theorem d2i_ok {a c : Addr} {fd : FuncData} {t : Tab} {ds : List Int} {n : Nat} (W : S.Ok mg mb) (T : TopFn S mg 6 a fd) (hc : fd.code = .ref c) (K : Maker S mg c t) (ht : t.line = (stPos d2iIn).line ∧ t.col = (stPos d2iIn).col)
    (hqn : fd.qualname ++ ".<locals>." ++ "inner" = t.qual) (fit : DFit ds n) (hd : ds.length ≤ d) (hlen : GName S (stScope (topAt 6)) "len" (.builtin "len")) : CallOk S false (d + 1) (.ref a) [.ints ds, .int n] (.int (dsum n ds)) := by
  obtain ⟨o, ho, hdata⟩ := T.ob
  refine fn_ok0 (params := ["digits", "n"]) (rest := ["inner"]) W ho hdata T.code T.body T.clo T.glob T.blt (by rw [T.scope]; rfl) (by rw [T.scope]; rfl) (by rw [T.scope]; rfl) (fun vs hv => ?_) rfl (by rw [T.scope]; decide) (by decide) fun A env base s Q R F hcode hqual hQ => ?_
  · exact vec2 (P := fun vs => bindArgs fd ⟨vs, []⟩ = pure ((["digits", "n"] : List Str).zip vs)) (fun _ _ => bind_ok T.params T.dfl fun fd => rfl) vs hv
  · rw [T.scope] at F hQ
    -- the cells
    have cell : ∀ x, (stScope (topAt 6)).names.lookup x = some .cell → ∃ c, env.cells.lookup x = some c := fun x e => Option.isSome_iff_exists.mp (F.cellsAll x e)
    obtain ⟨cd, hcd⟩ := cell "digits" rfl
    obtain ⟨cn, hcn⟩ := cell "n" rfl
    obtain ⟨ci, hci⟩ := cell "inner" rfl
    have hne : cd ≠ ci ∧ cd ≠ cn ∧ ci ≠ cn := ⟨fun e => absurd (F.cellInj _ _ _ hcd (e ▸ hci)) (by decide), fun e => absurd (F.cellInj _ _ _ hcd (e ▸ hcn)) (by decide), fun e => absurd (F.cellInj _ _ _ hci (e ▸ hcn)) (by decide)⟩
    have hclos : closureFor (stScope d2iIn) env = pure [(("n" : Str), cn), ("inner", ci), ("digits", cd)] := by
      rw [closureFor_is (fun n k hm hk => ?_)]
      · show (pure [(("n" : Str), (env.cells.lookup ("n" : Str)).getD 0), ("inner", (env.cells.lookup ("inner" : Str)).getD 0), ("digits", (env.cells.lookup ("digits" : Str)).getD 0)] : Sem _) = _
        rw [hcd, hcn, hci]; rfl
      · subst hk
        have : n = "digits" ∨ n = "inner" ∨ n = "n" := by
          have hm' : (n, NameKind.free) ∈ [(("L" : Str), NameKind.local), ("R", .local), ("mid", .local), ("shift", .local), ("digits", .free), ("inner", .free), ("n", .free)] := hm
          simp at hm'
          exact hm'
        rcases this with rfl | rfl | rfl
        · rw [hcd]; rfl
        · rw [hci]; rfl
        · rw [hcn]; rfl
    have hqi : qualnameIn env "inner" "inner" = t.qual := by
      unfold qualnameIn
      rw [if_neg, hqual, hqn]
      have := F.kindOf' (x := "inner") .cell rfl (by intro h; cases h)
      rw [this]; decide
    show wpAny _ A (execs (d2iIn :: (stBody (topAt 6)).drop 1) env) Q No s
    refine wpAny_execs_cons ?_
    show wpAny _ A (exec (.FunctionDef "inner" (stParams d2iIn) (stBody d2iIn) [] none [] (stScope d2iIn) none "inner" (stPos d2iIn)) env) _ No s
    refine nestDef_K rfl rfl rfl ?_
    rw [hqi]
    refine make_ok W K F.gd F.glob (hcode.trans hc) hclos ht.1 ht.2 fun f h1 tk1 doc cv ctv kp1 g1 fr1 fTB hfn hcv => ?_
    have keep1 : ∀ x o, x ∉ S.TB → s.heap.get? x = some o → h1.get? x = some o := fun x o hx e => kp1 x o id (.inr hx) e
    have F1 := F.grow keep1 g1
    obtain ⟨hbI, v0, cI0⟩ := F1.cellB ci ⟨_, hci⟩
    refine wpAny_storeName_cell (s := { s with heap := h1, toks := tk1 }) F.kind (F.kindOf' .cell rfl (by intro h; cases h)) hci cI0 fun h2 cI2 hs2 => ?_
    have hx : ∀ (i : Nat) (z : PV × Own), ((["digits", "n"] : List Str) ++ (["inner"] : List Str))[i]? = some "inner" → (List.map (fun p => some (p, Own.imm)) [PV.ints ds, PV.int n] ++ List.replicate (["inner"] : List Str).length none)[i]? ≠ some (some z) := fun i z e e' => by
      have : i < 3 := (List.getElem?_eq_some_iff.mp e).1
      have : i = 0 ∨ i = 1 ∨ i = 2 := by (first | lia | omega)
      rcases this with rfl | rfl | rfl
      · exact absurd e (by decide)
      · exact absurd e (by decide)
      · cases e'
    have F2 := F1.cellStore hci hs2 cI2 hx
    have hfci : f ≠ ci := fun e => by
      obtain ⟨_, v, o, e1, _⟩ := F.cellB ci ⟨_, hci⟩
      rw [← e, fr1] at e1; cases e1
    have cDr : ∃ vd fpd, h2.IsCell cd (some vd) ∧ Rp S h2 vd (.ints ds) fpd := by
      obtain ⟨v, fp, V⟩ := F2.vars 0 "digits" _ _ rfl rfl
      rcases V.rd with ⟨r1, _⟩ | ⟨_, c, r2, r3⟩
      · rw [F.kindOf' .cell rfl (by intro h; cases h)] at r1; (first | obtain ⟨_, rfl, rfl⟩ := r1.inv | cases r1)
      · rw [hcd] at r2; (first | obtain ⟨_, rfl, rfl⟩ := r2.inv | cases r2); exact ⟨v, fp, r3, V.rp⟩
    have cNr : ∃ tn, h2.IsCell cn (some (.int n tn)) := by
      obtain ⟨v, fp, V⟩ := F2.vars 1 "n" _ _ rfl rfl
      rcases V.rd with ⟨r1, _⟩ | ⟨_, c, r2, r3⟩
      · rw [F.kindOf' .cell rfl (by intro h; cases h)] at r1; (first | obtain ⟨_, rfl, rfl⟩ := r1.inv | cases r1)
      · rw [hcn] at r2; (first | obtain ⟨_, rfl, rfl⟩ := r2.inv | cases r2)
        have := V.rp
        cases this
        exact ⟨_, r3⟩
    obtain ⟨vd, fpd, cD, rD⟩ := cDr
    obtain ⟨tn, cN⟩ := cNr
    have hcv2 : h2.CodeRec cv t.qual := by
      obtain ⟨c0, o0, vs0, t0, q1, q2, q3, q4⟩ := hcv
      refine ⟨c0, o0, vs0, t0, q1, (hs2.2 _ fun he => ?_).trans q2, q3, q4⟩
      obtain ⟨oI, e1, e2⟩ := cI0
      rw [he, e1] at q2; (first | obtain ⟨_, rfl, rfl⟩ := q2.inv | cases q2); rw [e2] at q3; (first | obtain ⟨_, rfl, rfl⟩ := q3.inv | cases q3)
    have C : DCtx S h2 f cd ci cn t.qual vd fpd ds n doc ((mg "__name__").getD .none) cv ctv :=
      ⟨F2.gd, (hs2.2 _ hfci).trans hfn, fTB, hcv2, cD, cI2, ⟨tn, cN⟩, ⟨F.topNone (F.cellB cd ⟨_, hcd⟩).1, F.topNone (F.cellB ci ⟨_, hci⟩).1, F.topNone (F.cellB cn ⟨_, hcn⟩).1⟩, hne, rD⟩
    have st2 : Stp S false env (List.map (fun p => some (p, Own.imm)) [PV.ints ds, PV.int n] ++ List.replicate (["inner"] : List Str).length none) (fun _ => 0) s { s with heap := h2, toks := tk1 } := by
      refine ⟨⟨h2, tk1, rfl⟩, fun x o hx hb e => ?_, fun x o e => ?_⟩
      · have : x ≠ ci := fun he => hx (.inr (.inl (he ▸ ⟨_, hci⟩)))
        exact (hs2.2 x this).trans (kp1 x o id hb e)
      · by_cases hxc : x = ci
        · obtain ⟨oI, e1, _⟩ := cI2; exact ⟨oI, hxc ▸ e1⟩
        · obtain ⟨o', e'⟩ := TabOk.alive g1 keep1 x o e
          exact ⟨o', (hs2.2 x hxc).trans e'⟩
    have fin : ∀ {tt : Tok} {s3 : Shared}, Kp S true { s with heap := h2, toks := tk1 } s3 → Q (.ret (.int (dsum n ds) tt)) s3 := fun k => by
      refine hQ _ _ ⟨_, [], rfl, st2.trans .refl (.ofKp k.weak), k.gd, .int _ _, fun x hx => by cases hx⟩
    have len := fit.len
    refine wpAny_execs_cons (wpAny_Return_some (wpAny_IfExp (Tr.go (b := true) (s := { s with heap := h2, toks := tk1 }) R F2 (Tr.list (q1 := .R) (Ev.var 0 rfl rfl rfl) (by rw [List.length_map]; (first | lia | omega))) fun s3 k3 => ?_)))
    by_cases hem : ds = []
    · subst hem
      refine Ev.go (b := true) (q := .R) R (F2.kp k3) Ev.cint fun v s4 fp k4 r4 _ => ?_
      (first | obtain ⟨_, rfl, rfl⟩ := r4.inv | cases r4)
      exact fin (k3.trans k4)
    · have e1 : (!(ds.map PV.int).isEmpty) = true := by cases ds with | nil => exact absurd rfl hem | cons a b => rfl
      rw [e1]
      have F3 := F2.kp k3
      have C3 := C.keeps k3.gd k3.keeps
      refine call_named (s := s3) (b := true) R F3 (.inr ⟨.inl (F.kindOf' .cell rfl (by intro h; cases h)), ci, hci, C3.cI⟩) ⟨_, _, _, _, C3.fn⟩ fTB (Evs.cons (q := .F) Ev.cint (Evs.cons (Ev.call (q1 := .R) hlen (.blt _) (Evs.cons (Ev.var 0 rfl rfl rfl) Evs.nil) (c_lenList (by rw [List.length_map]; (first | lia | omega)))) Evs.nil)) fun vs s4 fp k4 r4 => ?_
      obtain ⟨v1, v2, f1, f2, rfl, rfl, r41, r42⟩ := r4.two
      (first | obtain ⟨_, rfl, rfl⟩ := r41.inv | cases r41); (first | obtain ⟨_, rfl, rfl⟩ := r42.inv | cases r42)
      have hpos : 0 < ds.length := List.length_pos_iff.mpr hem
      rw [List.length_map]
      refine d2i_inner W fit (ds.length - 1) 0 ds.length (by (first | lia | omega)) (Nat.le_refl _) A s4 _ _ _ (R.mono (by (first | lia | omega))) (C3.keeps k4.gd k4.keeps) fun v5 s5 fp5 k5 r5 _ => ?_
      have ew : sub ds 0 ds.length = ds := by unfold sub; simp
      rw [ew] at r5
      (first | obtain ⟨_, rfl, rfl⟩ := r5.inv | cases r5)
      exact fin ((k3.trans k4).trans k5)
end
end Mine
open PySem PySem.Calls PyProof.Rows PySem.W
set_option Elab.async false
set_option autoImplicit false
set_option linter.unusedVariables false
namespace Mine

noncomputable def digs (n : Nat) : Nat → Nat → List Int
  | 0, _ => []
  | 1, x => [(x : Int)]
  | k + 2, x => ((x % 2 ^ n : Nat) : Int) :: digs n (k + 1) (x / 2 ^ n)

theorem digs_len (n : Nat) : ∀ k x, (digs n k x).length = k
  | 0, _ => rfl
  | 1, _ => rfl
  | k + 2, x => by rw [digs, List.length_cons, digs_len n (k + 1)]

theorem digs_split (n : Nat) : ∀ (m k x : Nat), digs n (m + 1 + (k + 1)) x = digs n (m + 1) (x % 2 ^ (n * (m + 1))) ++ digs n (k + 1) (x / 2 ^ (n * (m + 1)))
  | 0, k, x => by
    rw [show 0 + 1 + (k + 1) = k + 2 by (first | lia | omega), digs, Nat.zero_add, Nat.mul_one]
    rfl
  | m + 1, k, x => by
    rw [show m + 1 + 1 + (k + 1) = (m + 1 + k) + 2 by (first | lia | omega), digs, show m + 1 + k + 1 = m + 1 + (k + 1) by (first | lia | omega), digs_split n m k]
    rw [show digs n (m + 1 + 1) (x % 2 ^ (n * (m + 1 + 1))) = (((x % 2 ^ (n * (m + 1 + 1))) % 2 ^ n : Nat) : Int) :: digs n (m + 1) ((x % 2 ^ (n * (m + 1 + 1))) / 2 ^ n) from rfl]
    have e1 : 2 ^ (n * (m + 1 + 1)) = 2 ^ n * 2 ^ (n * (m + 1)) := by rw [← Nat.pow_add]; congr 1; rw [Nat.mul_add n (m + 1) 1]; (first | lia | omega)
    have e2 : x % 2 ^ (n * (m + 1 + 1)) % 2 ^ n = x % 2 ^ n := by rw [e1, Nat.mod_mul_right_mod]
    have e3 : x % 2 ^ (n * (m + 1 + 1)) / 2 ^ n = x / 2 ^ n % 2 ^ (n * (m + 1)) := by rw [e1, Nat.mod_mul_right_div_self]
    have e4 : x / 2 ^ (n * (m + 1 + 1)) = x / 2 ^ n / 2 ^ (n * (m + 1)) := by rw [e1, Nat.div_div_eq_div_mul]
    rw [e2, e3, e4]
    rfl

noncomputable def putAt (xs : List Int) (l : Nat) (ds : List Int) : List Int := xs.take l ++ ds ++ xs.drop (l + ds.length)
theorem putAt_one (xs : List Int) {l : Nat} (x : Int) (h : l < xs.length) : xs.set l x = putAt xs l [x] := by
  unfold putAt
  rw [List.set_eq_take_append_cons_drop, if_pos h]
  simp
theorem putAt_len (xs : List Int) {l : Nat} (ds : List Int) (h : l + ds.length ≤ xs.length) : (putAt xs l ds).length = xs.length := by
  unfold putAt; simp; (first | lia | omega)
theorem putAt_two (xs : List Int) {l : Nat} (a c : List Int) (h : l + a.length + c.length ≤ xs.length) : putAt (putAt xs l a) (l + a.length) c = putAt xs l (a ++ c) := by
  unfold putAt
  have e1 : (xs.take l ++ a ++ xs.drop (l + a.length)).take (l + a.length) = xs.take l ++ a := by
    rw [List.take_append_of_le_length (by simp; (first | lia | omega)), List.take_of_length_le (by simp; (first | lia | omega))]
  have e2 : (xs.take l ++ a ++ xs.drop (l + a.length)).drop (l + a.length + c.length) = xs.drop (l + (a ++ c).length) := by
    have e0 : (xs.take l ++ a).length = l + a.length := by simp; (first | lia | omega)
    rw [show l + a.length + c.length = (xs.take l ++ a).length + c.length by rw [e0], List.drop_length_add_append, List.drop_drop]
    congr 1; simp only [List.length_append]; (first | lia | omega)
  rw [e1, e2]; simp

section
variable {S : Sys} {sc : Scope} {ns : List Str} {base : Heap} {env : Env} {s s' s0 : Shared} {ρ : Ro} {rt : Nat → Addr} {b : Bool} {d : Nat} {q : Md} {p p1 p2 p' : PV} {mg mb : Str → Option Value}

theorem Fm.growBut {h h' : Heap} {D : Addr} (F : Fm S sc ns base env h ρ rt) (k : ∀ a o, a ≠ D → a ∉ S.TB → h.get? a = some o → h'.get? a = some o) (g : Gd S h') (hD : ∃ o, h'.get? D = some o) (hL : env.locals ≠ D) (hc : ¬ isCellOf env D)
    (ha : ∀ (i : Nat) (p : PV) (k' : Own), ρ[i]? = some (some (p, k')) → p.atom = true ∧ k' = .imm) : Fm S sc ns base env h' ρ rt where
  gd := g
  kind := F.kind
  kinds := F.kinds
  glob := F.glob
  blt := F.blt
  top := F.top
  alive := fun b o e => by
    obtain ⟨o', e'⟩ := F.alive b o e
    by_cases hb : b = D
    · exact hb ▸ hD
    · by_cases ht : b ∈ S.TB
      · obtain ⟨ps, e⟩ := tb_data g.tab ht; exact ⟨_, e⟩
      · exact ⟨o', k b o' hb ht e'⟩
  nsB := F.nsB
  ns1 := let ⟨m, n⟩ := F.ns1; ⟨m, n.at' fun o ho => k _ o hL F.nsTB ho⟩
  cellB := fun c hc' => by
    obtain ⟨a, v, n⟩ := F.cellB c hc'
    exact ⟨a, v, IsCell.at' n fun o ho => k _ o (fun e => hc (e ▸ hc')) (IsCell.notTB F.gd n) ho⟩
  cellInj := F.cellInj
  cellsAll := F.cellsAll
  len := F.len
  vars := fun i x p k' e1 e2 => by
    obtain ⟨v, fp, V⟩ := F.vars i x p k' e1 e2
    obtain ⟨hat, rfl⟩ := ha i p k' e2
    have := V.rp.atomNil hat
    subst this
    refine ⟨v, [], ?_, V.rp.mono fun b hb => (by cases hb), V.loc, fun hq => absurd rfl hq, V.sep⟩
    rcases V.rd with ⟨r1, m', r2, r3⟩ | ⟨r1, c, r2, r3⟩
    · exact .inl ⟨r1, m', r2.at' fun o ho => k _ o hL F.nsTB ho, r3⟩
    · exact .inr ⟨r1, c, r2, IsCell.at' r3 fun o ho => k _ o (fun e => hc (e ▸ ⟨x, r2⟩)) (IsCell.notTB F.gd r3) ho⟩

noncomputable abbrev i2dIn : Stmt := stAt (stBody (topAt 5)) 1

structure ICtx (S : Sys) (h : Heap) (f ca ci cn D : Addr) (qual : Str) (xs : List Int) (n : Nat) (doc pm cv ctv : Value) : Prop where
  gd : Gd S h
  fn : h.get? f = some (inFn "inner" qual (stParams i2dIn) (stBody i2dIn) (stScope i2dIn) [("n", cn), ("inner", ci), ("a_digits", ca)] doc pm cv ctv)
  fTB : f ∉ S.TB
  code : h.CodeRec cv qual
  cA : h.IsCell ca (some (.ref D))
  cI : h.IsCell ci (some (.ref f))
  cN : ∃ t, h.IsCell cn (some (.int n t))
  hT : S.hT.get? ca = none ∧ S.hT.get? ci = none ∧ S.hT.get? cn = none ∧ S.hT.get? D = none
  ne : ca ≠ ci ∧ ca ≠ cn ∧ ci ≠ cn
  DTB : D ∉ S.TB
  li : ∃ ws, h.PlainList D ws.toArray ∧ IntsAre ws xs

variable {f ca ci cn D : Addr} {qual : Str} {xs ys : List Int} {n : Nat} {doc pm cv ctv : Value}

theorem ICtx.neD {h : Heap} (C : ICtx S h f ca ci cn D qual xs n doc pm cv ctv) : f ≠ D ∧ ca ≠ D ∧ ci ≠ D ∧ cn ≠ D := by
  obtain ⟨ws, ⟨k, e⟩, _⟩ := C.li
  refine ⟨fun he => ?_, fun he => ?_, fun he => ?_, fun he => ?_⟩
  · have := C.fn; rw [he, e] at this; have h2 := congrArg Obj.data (Option.some.inj this); cases h2
  · obtain ⟨o, e1, e2⟩ := C.cA; rw [he, e] at e1; cases e1; cases e2
  · obtain ⟨o, e1, e2⟩ := C.cI; rw [he, e] at e1; cases e1; cases e2
  · obtain ⟨t, o, e1, e2⟩ := C.cN; rw [he, e] at e1; cases e1; cases e2

theorem ICtx.move {h h' : Heap} (C : ICtx S h f ca ci cn D qual xs n doc pm cv ctv) (g : Gd S h') (k : ∀ a o, a ≠ D → h.get? a = some o → h'.get? a = some o) (hl : ∃ ws, h'.PlainList D ws.toArray ∧ IntsAre ws ys) :
    ICtx S h' f ca ci cn D qual ys n doc pm cv ctv := by
  obtain ⟨n1, n2, n3, n4⟩ := C.neD
  refine ⟨g, k _ _ n1 C.fn, C.fTB, ?_, IsCell.at' C.cA fun o e => k _ o n2 e, IsCell.at' C.cI fun o e => k _ o n3 e, let ⟨t, e⟩ := C.cN; ⟨t, IsCell.at' e fun o e => k _ o n4 e⟩, C.hT, C.ne, C.DTB, hl⟩
  obtain ⟨c0, o0, vs0, t0, q1, q2, q3, q4⟩ := C.code
  refine ⟨c0, o0, vs0, t0, q1, k _ _ (fun he => ?_) q2, q3, q4⟩
  obtain ⟨ws, ⟨kk, e⟩, _⟩ := C.li
  rw [he, e] at q2; (first | obtain ⟨_, rfl, rfl⟩ := q2.inv | cases q2); (first | obtain ⟨_, rfl, rfl⟩ := q3.inv | cases q3)
theorem ICtx.keeps {h h' : Heap} (C : ICtx S h f ca ci cn D qual xs n doc pm cv ctv) (g : Gd S h') (k : ∀ a o, h.get? a = some o → h'.get? a = some o) : ICtx S h' f ca ci cn D qual xs n doc pm cv ctv :=
  C.move g (fun a o _ e => k a o e) (let ⟨ws, ⟨kk, e⟩, i⟩ := C.li; ⟨ws, ⟨kk, k _ _ e⟩, i⟩)

theorem look3' {cn ci cd : Addr} {n : Str} {c : Addr} (e : List.lookup n [(("n" : Str), cn), ("inner", ci), ("a_digits", cd)] = some c) : (n = "n" ∧ c = cn) ∨ (n = "inner" ∧ c = ci) ∨ (n = "a_digits" ∧ c = cd) := by
  rw [List.lookup_cons] at e
  cases h1 : n == "n" with
  | true => rw [h1] at e; cases e; exact .inl ⟨eq_of_beq h1, rfl⟩
  | false =>
    rw [h1, List.lookup_cons] at e
    cases h2 : n == "inner" with
    | true => rw [h2] at e; cases e; exact .inr (.inl ⟨eq_of_beq h2, rfl⟩)
    | false =>
      rw [h2, List.lookup_cons] at e
      cases h3 : n == "a_digits" with
      | true => rw [h3] at e; cases e; exact .inr (.inr ⟨eq_of_beq h3, rfl⟩)
      | false => rw [h3] at e; cases e
end
end Mine
open PySem PySem.Calls PyProof.Rows PySem.W
set_option Elab.async false
set_option autoImplicit false
set_option linter.unusedVariables false
namespace Mine

theorem xor_low (x s : Nat) : x ^^^ (x / 2 ^ s * 2 ^ s) = x % 2 ^ s := by
  apply Nat.eq_of_testBit_eq
  intro i
  rw [Nat.testBit_xor, Nat.mul_comm, Nat.testBit_two_pow_mul, Nat.testBit_mod_two_pow, Nat.testBit_div_two_pow]
  by_cases h : s ≤ i
  · have h1 : ¬ i < s := by (first | lia | omega)
    have h2 : s + (i - s) = i := by (first | lia | omega)
    simp [h, h1, Nat.add_comm, Nat.sub_add_cancel h]
  · have h1 : i < s := by (first | lia | omega)
    simp [h, h1]

theorem or_xor : ∀ (n x y : Nat), x < 2 ^ n → y < 2 ^ n → x ||| y = (x ^^^ y) + (x &&& y)
  | 0, x, y, hx, hy => by
    have : x = 0 := by simp at hx; exact hx
    have : y = 0 := by simp at hy; exact hy
    subst x; subst y; rfl
  | n + 1, x, y, hx, hy => by
    have ih := or_xor n (x / 2) (y / 2) (by rw [Nat.pow_succ] at hx; (first | lia | omega)) (by rw [Nat.pow_succ] at hy; (first | lia | omega))
    rw [← Nat.or_div_two, ← Nat.xor_div_two, ← Nat.and_div_two] at ih
    have m1 : (x ||| y) % 2 = max (x % 2) (y % 2) := by
      rw [show (2 : Nat) = 2 ^ 1 from rfl, Nat.or_mod_two_pow]
      have a : x % 2 = 0 ∨ x % 2 = 1 := by (first | lia | omega)
      have b : y % 2 = 0 ∨ y % 2 = 1 := by (first | lia | omega)
      rcases a with a | a <;> rcases b with b | b <;> (simp only [Nat.pow_one, a, b]; rfl)
    have m2 : (x ^^^ y) % 2 = (x + y) % 2 := by
      rw [show (2 : Nat) = 2 ^ 1 from rfl, Nat.xor_mod_two_pow]
      have a : x % 2 = 0 ∨ x % 2 = 1 := by (first | lia | omega)
      have b : y % 2 = 0 ∨ y % 2 = 1 := by (first | lia | omega)
      have c : (x + y) % 2 = (x % 2 + y % 2) % 2 := Nat.add_mod x y 2
      rcases a with a | a <;> rcases b with b | b <;> (simp only [Nat.pow_one, a, b, c]; rfl)
    have m3 : (x &&& y) % 2 = min (x % 2) (y % 2) := by
      rw [show (2 : Nat) = 2 ^ 1 from rfl, Nat.and_mod_two_pow]
      have a : x % 2 = 0 ∨ x % 2 = 1 := by (first | lia | omega)
      have b : y % 2 = 0 ∨ y % 2 = 1 := by (first | lia | omega)
      rcases a with a | a <;> rcases b with b | b <;> (simp only [Nat.pow_one, a, b]; rfl)
    have d1 := Nat.div_add_mod (x ||| y) 2
    have d2 := Nat.div_add_mod (x ^^^ y) 2
    have d3 := Nat.div_add_mod (x &&& y) 2
    (first | lia | omega)

theorem bitAnd_nat (x y : Nat) : Builtin.bitAnd x y = ((x &&& y : Nat) : Int) := by
  unfold Builtin.bitAnd
  have h1 : decide ((0 : Int) ≤ x) = true := decide_eq_true (by (first | lia | omega))
  have h2 : decide ((0 : Int) ≤ y) = true := decide_eq_true (by (first | lia | omega))
  rw [h1, h2]
  simp only [Int.toNat_natCast]
theorem bitXor_nat (x y : Nat) : Builtin.bitXor x y = ((x ^^^ y : Nat) : Int) := by
  have ho : Builtin.bitOr x y = ((x ||| y : Nat) : Int) := by
    unfold Builtin.bitOr Builtin.bitAnd Builtin.bitNot
    have h1 : decide ((0 : Int) ≤ -(x : Int) - 1) = false := decide_eq_false (by (first | lia | omega))
    have h2 : decide ((0 : Int) ≤ -(y : Int) - 1) = false := decide_eq_false (by (first | lia | omega))
    rw [h1, h2]
    have e1 : (-(-(x : Int) - 1) - 1).toNat = x := by (first | lia | omega)
    have e2 : (-(-(y : Int) - 1) - 1).toNat = y := by (first | lia | omega)
    simp only [e1, e2]
    (first | lia | omega)
  unfold Builtin.bitXor
  rw [ho, bitAnd_nat]
  have := or_xor (x + y) x y (Nat.lt_of_le_of_lt (Nat.le_add_right x y) Nat.lt_two_pow_self) (Nat.lt_of_le_of_lt (Nat.le_add_left y x) Nat.lt_two_pow_self)
  rw [this]
  push_cast
  (first | lia | omega)

theorem bits_lt {x B : Nat} (h : x < 2 ^ B) : Builtin.Int.intBits (x : Int) ≤ B := by
  unfold Builtin.Int.intBits
  by_cases h0 : x = 0
  · subst h0; simp
  · rw [if_neg (by simpa using h0), Int.natAbs_natCast]
    exact (Nat.log2_lt h0).mpr h

section
variable {S : Sys} {sc : Scope} {ns : List Str} {base : Heap} {env : Env} {s s' s0 : Shared} {ρ : Ro} {rt : Nat → Addr} {b : Bool} {d : Nat} {q : Md} {p p1 p2 p' : PV} {mg mb : Str → Option Value}
  {f ca ci cn D : Addr} {qual : Str} {xs ys : List Int} {n : Nat} {doc pm cv ctv : Value}

structure Mv (S : Sys) (D : Addr) (s s1 : Shared) : Prop where
  same : ∃ h tk, s1 = { s with heap := h, toks := tk }
  keep : ∀ a o, a ≠ D → s.heap.get? a = some o → s1.heap.get? a = some o
theorem Mv.kp {s1 s2 : Shared} (m : Mv S D s s1) (k : Kp S true s1 s2) : Mv S D s s2 := by
  obtain ⟨⟨h, tk, rfl⟩, kk⟩ := m
  obtain ⟨h', tk', rfl, k2, _⟩ := id k
  exact ⟨⟨h', tk', rfl⟩, fun a o hne e => k2 a o id (.inl rfl) (kk a o hne e)⟩
theorem Mv.trans {s1 s2 : Shared} (m : Mv S D s s1) (m' : Mv S D s1 s2) : Mv S D s s2 := by
  obtain ⟨⟨h, tk, rfl⟩, kk⟩ := m
  obtain ⟨⟨h', tk', rfl⟩, kk'⟩ := m'
  exact ⟨⟨h', tk', rfl⟩, fun a o hne e => kk' a o hne (kk a o hne e)⟩

noncomputable def ListIs (h : Heap) (D : Addr) (xs : List Int) : Prop := ∃ ws, h.PlainList D ws.toArray ∧ IntsAre ws xs
theorem list_set {A : Around} {l : Nat} {x : Int} {t tx : Tok} {Q : Unit → Shared → Prop} (L : ListIs s.heap D xs) (G : Gd S s.heap) (hT : S.hT.get? D = none) (hl : l < xs.length) (hz : xs.length < 2 ^ 20)
    (h : ∀ h', Heap.SameBut D s.heap h' → Gd S h' → ListIs h' D (xs.set l x) → Q () { s with heap := h' }) : wpAny (model S.prog S.w) A (setItem (.ref D) (.int l t) (.int x tx)) Q No s := by
  obtain ⟨ws, ⟨nw, ew⟩, iw⟩ := L
  have lw : ws.length = xs.length := iw.length
  refine ki_setAt ew (by (first | lia | omega)) (by (first | lia | omega)) (by rw [List.size_toArray]; (first | lia | omega)) ?_
  have sb : Heap.SameBut D s.heap (s.heap.update D (Obj.mapSeq (·.setIfInBounds (l : Int).toNat (.int x tx)))) := Heap.SameBut.update ..
  have eo : Obj.mapSeq (·.setIfInBounds (l : Int).toNat (.int x tx)) { cls := .type "list", data := .seq ws.toArray nw } = { cls := .type "list", data := .seq (ws.set l (.int x tx)).toArray nw } := by
    have : ws.toArray.setIfInBounds (l : Int).toNat (.int x tx) = (ws.set l (.int x tx)).toArray := by apply Array.toList_inj.mp; simp
    simp [Obj.mapSeq, this]
  have eg : (s.heap.update D (Obj.mapSeq (·.setIfInBounds (l : Int).toNat (.int x tx)))).get? D = some { cls := .type "list", data := .seq (ws.set l (.int x tx)).toArray nw } := by
    rw [Heap.get?_update_self _ ew (by rw [eo]; rfl), eo]
  refine h _ sb (G.sameBut sb hT (fun o e vs hd => by rw [ew] at e; cases e; cases hd) ⟨_, ew⟩) ⟨_, ⟨nw, eg⟩, ?_⟩
  clear eg eo sb lw ew h
  induction iw generalizing l with
  | nil => exact .nil
  | cons n t r ih =>
    cases l with
    | zero => exact .cons x tx r
    | succ l => exact .cons n t (ih (by simpa using hl) (by simp at hz; (first | lia | omega)))

theorem Rps.three {h : Heap} {p1 p2 p3 : PV} {vs : List Value} {fp : List Addr} (r : Rps S h vs [p1, p2, p3] fp) : ∃ v1 v2 v3, vs = [v1, v2, v3] ∧ (∃ f, Rp S h v1 p1 f) ∧ (∃ f, Rp S h v2 p2 f) ∧ ∃ f, Rp S h v3 p3 f := by
  cases r with
  | cons a b =>
    obtain ⟨v1, v2, f1, f2, rfl, _, r1, r2⟩ := Rps.two b
    exact ⟨_, _, _, rfl, ⟨_, a⟩, ⟨_, r1⟩, ⟨_, r2⟩⟩

theorem i2d_inner (W : S.Ok mg mb) (hnn : n < 2 ^ 20) {B : Nat} (hB : B ≤ 2 ^ 26) : ∀ (k l r x : Nat) (xs : List Int), r = l + k + 1 → r ≤ xs.length → xs.length < 2 ^ 20 → n * xs.length ≤ 2 ^ 26 → x < 2 ^ B → ∀ (A : Around) (s : Shared) (t0 t1 t2 : Tok) (Q : Value → Shared → Prop),
    Room (k + 1) A → ICtx S s.heap f ca ci cn D qual xs n doc pm cv ctv → (∀ s', Mv S D s s' → Gd S s'.heap → ListIs s'.heap D (putAt xs l (digs n (k + 1) x)) → Q .none s') →
    wpAny (model S.prog S.w) A (call (.ref f) [.int x t0, .int l t1, .int r t2]) Q No s := by
  intro k
  induction k using Nat.strongRecOn with
  | _ k ih =>
  intro l r x xs hr hrl hsz hnsz hx A s t0 t1 t2 Q R C hQ
  obtain ⟨tn, cNv⟩ := C.cN
  obtain ⟨nf, nca, nci, ncn⟩ := C.neD
  refine inner_call (d := k) W R C.gd C.fn C.code (pn := ["x", "L", "R"]) (fn := ["n"]) (rest := ["mid", "shift", "upper", "lower"]) (ps := [.int x, .int l, .int r]) (qs := [.int n]) (fp := []) rfl (by decide) (by decide) rfl rfl rfl (by decide) rfl
    (.cons (f1 := []) (.int _ _) (.cons (f1 := []) (.int _ _) (.cons (f1 := []) (.int _ _) .nil))) rfl (fun n c e => ?_) (fun n n' c e e' => ?_) (fun z hz => by cases hz) (fun i x p e e' => ?_) fun env h₀ tk eC eL kp kO R' F => ?_
  · rcases look3' e with ⟨_, rfl⟩ | ⟨_, rfl⟩ | ⟨_, rfl⟩
    · exact ⟨C.hT.2.2.1, _, cNv⟩
    · exact ⟨C.hT.2.1, _, C.cI⟩
    · exact ⟨C.hT.1, _, C.cA⟩
  · rcases look3' e with ⟨rfl, rfl⟩ | ⟨rfl, rfl⟩ | ⟨rfl, rfl⟩ <;> rcases look3' e' with ⟨rfl, h⟩ | ⟨rfl, h⟩ | ⟨rfl, h⟩ <;> first | rfl | (exfalso; first | exact C.ne.1 h | exact C.ne.2.1 h | exact C.ne.2.2 h | exact C.ne.1 h.symm | exact C.ne.2.1 h.symm | exact C.ne.2.2 h.symm)
  · have hi : i < 1 := (List.getElem?_eq_some_iff.mp e).1
    have : i = 0 := by (first | lia | omega)
    subst this
    cases e; cases e'
    exact ⟨by decide, by decide, cn, _, [], rfl, cNv, .int _ _, fun z hz => by cases hz⟩
  · have hL : s.heap.get? env.locals = none := by rw [eL]; exact fresh_size _
    have hLD : env.locals ≠ D := fun e => by obtain ⟨ws, ⟨_, e'⟩, _⟩ := C.li; rw [← e, hL] at e'; cases e'
    have hcD : ¬ isCellOf env D := fun ⟨nm, e⟩ => by
      rw [eC] at e
      rcases look3' e with ⟨_, h⟩ | ⟨_, h⟩ | ⟨_, h⟩
      · exact ncn h.symm
      · exact nci h.symm
      · exact nca h.symm
    have k0 : Kp S true s { s with heap := h₀, toks := tk } := Kp.of_keeps C.gd kp
    have m0 : Mv S D s { s with heap := h₀, toks := tk } := ⟨⟨h₀, tk, rfl⟩, fun a o _ e => kp a o e⟩
    refine wpAny_execs_cons (wpAny_If (Tr.go (b := true) (t := ((l : Int) + 1 == r)) (s := { s with heap := h₀, toks := tk }) R' F (Tr.cmp (q1 := .R) (q2 := .R) (Ev.op2 (q1 := .R) (q2 := .R) (Ev.var 1 rfl rfl rfl) Ev.cint o_add) (Ev.var 2 rfl rfl rfl) o_eq) fun s1 k1 => ?_))
    have F1 := F.kp k1
    have k01 := k0.trans k1
    have m1 := m0.kp k1
    have rdI : ∀ {h : Heap}, h.IsCell ci (some (.ref f)) → Reads env h "inner" (.ref f) := fun hc => .inr ⟨.inr ⟨by rw [kO]; rfl, by decide⟩, ci, by rw [eC]; rfl, hc⟩
    have rdA : ∀ {h : Heap}, h.IsCell ca (some (.ref D)) → Reads env h "a_digits" (.ref D) := fun hc => .inr ⟨.inr ⟨by rw [kO]; rfl, by decide⟩, ca, by rw [eC]; rfl, hc⟩
    have fnI : ∀ {h : Heap} {zs}, ICtx S h f ca ci cn D qual zs n doc pm cv ctv → FnAt f h := fun C => ⟨_, _, _, _, C.fn⟩
    by_cases hk : k = 0
    · subst hk
      have e1 : ((l : Int) + 1 == r) = true := by rw [hr]; simp
      rw [e1]
      simp only [if_true]
      refine wpAny_execs_cons (wpAny_Assign_Subscript (Ev.go (b := true) (q := .R) (p := .int x) R' F1 (Ev.var 0 rfl rfl rfl) fun v s2 fp k2 r2 _ => ?_))
      (first | obtain ⟨_, rfl, rfl⟩ := r2.inv | cases r2)
      have C2 := C.keeps k2.gd (k01.trans k2).keeps
      rcases rdA C2.cA with ⟨a, _⟩ | ⟨a, c, e, nn⟩
      · rw [kO] at a; cases a
      refine wpAny_Name (loadCF F.kind a e nn ?_) (by decide)
      refine Ev.go (b := true) (q := .R) (p := .int l) R' (F1.kp k2) (Ev.var 1 rfl rfl rfl) fun v s3 fp k3 r3 _ => ?_
      (first | obtain ⟨_, rfl, rfl⟩ := r3.inv | cases r3)
      have C3 := C.keeps k3.gd ((k01.trans k2).trans k3).keeps
      have m3 := (m1.kp k2).kp k3
      refine list_set C3.li k3.gd C.hT.2.2.2 (by (first | lia | omega)) hsz fun h4 sb g4 L4 => ?_
      refine wpAny_execs_cons (wpAny_Return_none ?_)
      have m4 : Mv S D s { s3 with heap := h4 } := ⟨let ⟨h, tk, e⟩ := m3.same; ⟨h4, tk, by rw [e]⟩, fun a o hne e => (sb.2 a hne).trans (m3.keep a o hne e)⟩
      rw [putAt_one xs _ (by (first | lia | omega))] at L4
      exact hQ _ m4 g4 L4
    · have e1 : ((l : Int) + 1 == r) = false := by
        refine beq_eq_false_iff_ne.mpr ?_
        (first | lia | omega)
      rw [e1]
      simp only [Bool.false_eq_true, if_false]
      refine wpAny_execs_nil ?_
      obtain ⟨m, hm⟩ : ∃ m, m = (l + r) / 2 := ⟨_, rfl⟩
      have hm1 : l < m := by (first | lia | omega)
      have hm2 : m < r := by (first | lia | omega)
      have em : ((l : Int) + r).fdiv (2 ^ (1 : Int).toNat) = (m : Int) := by
        rw [Int.fdiv_eq_ediv_of_nonneg _ (by decide)]
        show ((l : Int) + r) / 2 = m
        (first | lia | omega)
      obtain ⟨j, hj⟩ : ∃ j, m = l + j + 1 := ⟨m - l - 1, by (first | lia | omega)⟩
      obtain ⟨i, hi⟩ : ∃ i, r = m + i + 1 := ⟨r - m - 1, by (first | lia | omega)⟩
      have hki : k + 1 = j + 1 + (i + 1) := by (first | lia | omega)
      refine wpAny_execs_cons (wpAny_Assign_Name (Ev.go (b := true) (q := .R) (p := .int m) R' F1 (Ev.op2 (q1 := .R) (q2 := .R) (Ev.op2 (q1 := .R) (q2 := .R) (Ev.var 1 rfl rfl rfl) (Ev.var 2 rfl rfl rfl) o_add) Ev.cint ((o_shr (by decide)).to em)) fun v s2 fp k2 r2 _ => ?_))
      (first | obtain ⟨_, rfl, rfl⟩ := r2.inv | cases r2)
      refine store_loc (i := 4) (F1.kp k2) (by decide) rfl (by decide) (.int _ _) fun h3 tk3 rt3 hs3 F3 => ?_
      have k03 : Kp S true s { s2 with heap := h3, toks := tk3 } := (k01.trans k2).store hL hs3 F3.gd
      have es : ((m : Int) - l) * n = ((n * (j + 1) : Nat) : Int) := by
        have : (m : Int) - l = ((j + 1 : Nat) : Int) := by (first | lia | omega)
        rw [this, ← Int.natCast_mul, Nat.mul_comm]
      have hmul : IntMulOk ((m : Int) - l) n := .of_left (intBits_le_64 (by (first | lia | omega)) (by (first | lia | omega)))
      refine wpAny_execs_cons (wpAny_Assign_Name (Ev.go (b := true) (q := .R) (p := .int ((n * (j + 1) : Nat) : Int)) (s := { s2 with heap := h3, toks := tk3 }) R' F3 (Ev.op2 (q1 := .R) (q2 := .R) (Ev.op2 (q1 := .R) (q2 := .R) (Ev.var 4 rfl rfl rfl) (Ev.var 1 rfl rfl rfl) o_sub) (Ev.var 3 rfl rfl rfl) ((o_mul hmul).to es)) fun v s4 fp k4 r4 _ => ?_))
      (first | obtain ⟨_, rfl, rfl⟩ := r4.inv | cases r4)
      refine store_loc (i := 5) (F3.kp k4) (by decide) rfl (by decide) (.int _ _) fun h5 tk5 rt5 hs5 F5 => ?_
      have k05 : Kp S true s { s4 with heap := h5, toks := tk5 } := (k03.trans k4).store hL hs5 F5.gd
      have hsh : n * (j + 1) ≤ 2 ^ 26 := Nat.le_trans (Nat.mul_le_mul_left n (by (first | lia | omega))) hnsz
      -- upper
      have eu : (x : Int).fdiv (2 ^ ((n * (j + 1) : Nat) : Int).toNat) = ((x / 2 ^ (n * (j + 1)) : Nat) : Int) := by
        rw [Int.toNat_natCast, Int.fdiv_eq_ediv_of_nonneg _ (Int.le_of_lt (Int.pow_pos (by decide)))]
        rw [Int.natCast_ediv, Int.natCast_pow]; rfl
      refine wpAny_execs_cons (wpAny_Assign_Name (Ev.go (b := true) (q := .R) (p := .int ((x / 2 ^ (n * (j + 1)) : Nat) : Int)) (s := { s4 with heap := h5, toks := tk5 }) R' F5 (Ev.op2 (q1 := .R) (q2 := .R) (Ev.var 0 rfl rfl rfl) (Ev.var 5 rfl rfl rfl) ((o_shr (by (first | lia | omega))).to eu)) fun v s6 fp k6 r6 _ => ?_))
      (first | obtain ⟨_, rfl, rfl⟩ := r6.inv | cases r6)
      refine store_loc (i := 6) (F5.kp k6) (by decide) rfl (by decide) (.int _ _) fun h7 tk7 rt7 hs7 F7 => ?_
      have k07 : Kp S true s { s6 with heap := h7, toks := tk7 } := (k05.trans k6).store hL hs7 F7.gd
      -- lower
      have hup : x / 2 ^ (n * (j + 1)) < 2 ^ B := Nat.lt_of_le_of_lt (Nat.div_le_self _ _) hx
      have hlo : x % 2 ^ (n * (j + 1)) < 2 ^ B := Nat.lt_of_le_of_lt (Nat.mod_le _ _) hx
      have ex : Builtin.bitXor (x : Int) (((x / 2 ^ (n * (j + 1)) : Nat) : Int) * 2 ^ ((n * (j + 1) : Nat) : Int).toNat) = ((x % 2 ^ (n * (j + 1)) : Nat) : Int) := by
        rw [Int.toNat_natCast, show (((x / 2 ^ (n * (j + 1)) : Nat) : Int) * 2 ^ (n * (j + 1))) = ((x / 2 ^ (n * (j + 1)) * 2 ^ (n * (j + 1)) : Nat) : Int) by rw [Int.natCast_mul, Int.natCast_pow]; rfl, bitXor_nat, xor_low]
      have hsz2 : (Builtin.Int.intBits ((x / 2 ^ (n * (j + 1)) : Nat) : Int) : Int) + ((n * (j + 1) : Nat) : Int) ≤ 2 ^ 27 := by
        have := bits_lt hup; (first | lia | omega)
      refine wpAny_execs_cons (wpAny_Assign_Name (Ev.go (b := true) (q := .R) (p := .int ((x % 2 ^ (n * (j + 1)) : Nat) : Int)) (s := { s6 with heap := h7, toks := tk7 }) R' F7 (Ev.op2 (q1 := .R) (q2 := .R) (Ev.var 0 rfl rfl rfl) (Ev.op2 (q1 := .R) (q2 := .R) (Ev.var 6 rfl rfl rfl) (Ev.var 5 rfl rfl rfl) (o_shl (by (first | lia | omega)) hsz2)) (o_xor.to ex)) fun v s8 fp k8 r8 _ => ?_))
      (first | obtain ⟨_, rfl, rfl⟩ := r8.inv | cases r8)
      refine store_loc (i := 7) (F7.kp k8) (by decide) rfl (by decide) (.int _ _) fun h9 tk9 rt9 hs9 F9 => ?_
      have k09 : Kp S true s { s8 with heap := h9, toks := tk9 } := (k07.trans k8).store hL hs9 F9.gd
      have C9 := C.keeps F9.gd k09.keeps
      have m9 : Mv S D s { s8 with heap := h9, toks := tk9 } := ⟨let ⟨h, tk, e, _⟩ := k09; ⟨h, tk, e⟩, fun a o _ e => k09.keeps a o e⟩
      have hatom : ∀ (i : Nat) (p : PV) (k' : Own), (((((List.map (fun p => some (p, Own.imm)) [PV.int x, PV.int l, PV.int r] ++ List.map (fun p => some (p, Own.imm)) [PV.int n] ++ List.replicate (["mid", "shift", "upper", "lower"] : List Str).length none).set 4 (some (PV.int m, Own.imm))).set 5 (some (PV.int ((n * (j + 1) : Nat) : Int), Own.imm))).set 6 (some (PV.int ((x / 2 ^ (n * (j + 1)) : Nat) : Int), Own.imm))).set 7 (some (PV.int ((x % 2 ^ (n * (j + 1)) : Nat) : Int), Own.imm)))[i]? = some (some (p, k')) → p.atom = true ∧ k' = .imm := fun i p k' e => by
        have hi8 : i < 8 := (List.getElem?_eq_some_iff.mp e).1
        match i, hi8 with
        | 0, _ | 1, _ | 2, _ | 3, _ | 4, _ | 5, _ | 6, _ | 7, _ => cases e; exact ⟨rfl, rfl⟩
      refine wpAny_execs_cons (wpAny_Expr_any (call_named (s := { s8 with heap := h9, toks := tk9 }) (b := true) R' F9 (rdI C9.cI) (fnI C9) C.fTB (Evs.cons (q := .R) (Ev.var 7 rfl rfl rfl) (Evs.cons (Ev.var 1 rfl rfl rfl) (Evs.cons (Ev.var 4 rfl rfl rfl) Evs.nil))) fun vs s10 fp k10 r10 => ?_) (notInteractive (s := { s8 with heap := h9, toks := tk9 }) F9))
      obtain ⟨v1, v2, v3, rfl, q1, q2, q3⟩ := r10.three
      obtain ⟨_, q1⟩ := q1
      obtain ⟨_, q2⟩ := q2
      obtain ⟨_, q3⟩ := q3
      (first | obtain ⟨_, rfl, rfl⟩ := q1.inv | cases q1); (first | obtain ⟨_, rfl, rfl⟩ := q2.inv | cases q2); (first | obtain ⟨_, rfl, rfl⟩ := q3.inv | cases q3)
      have k010 := k09.trans k10
      have C10 := C.keeps k10.gd k010.keeps
      refine ih j (by (first | lia | omega)) l m _ xs (by (first | lia | omega)) (by (first | lia | omega)) hsz hnsz hlo _ s10 _ _ _ _ (R'.mono (by (first | lia | omega))) C10 fun s11 mv11 g11 L11 => ?_
      have C11 := C10.move g11 mv11.keep L11
      have hD11 : ∃ o, s11.heap.get? D = some o := by obtain ⟨ws, ⟨nw, e⟩, _⟩ := L11; exact ⟨_, e⟩
      have F11 := (F9.kp k10).growBut (fun a o hne _ e => mv11.keep a o hne e) g11 hD11 hLD hcD hatom
      have m11 := (m9.kp k10).trans mv11
      refine wpAny_execs_cons (wpAny_Expr_any (call_named (s := s11) (b := true) R' F11 (rdI C11.cI) (fnI C11) C.fTB (Evs.cons (q := .R) (Ev.var 6 rfl rfl rfl) (Evs.cons (Ev.var 4 rfl rfl rfl) (Evs.cons (Ev.var 2 rfl rfl rfl) Evs.nil))) fun vs s12 fp k12 r12 => ?_) (notInteractive F11))
      obtain ⟨v1, v2, v3, rfl, q1, q2, q3⟩ := r12.three
      obtain ⟨_, q1⟩ := q1
      obtain ⟨_, q2⟩ := q2
      obtain ⟨_, q3⟩ := q3
      (first | obtain ⟨_, rfl, rfl⟩ := q1.inv | cases q1); (first | obtain ⟨_, rfl, rfl⟩ := q2.inv | cases q2); (first | obtain ⟨_, rfl, rfl⟩ := q3.inv | cases q3)
      have hpl : (putAt xs l (digs n (j + 1) (x % 2 ^ (n * (j + 1))))).length = xs.length := putAt_len xs _ (by rw [digs_len]; (first | lia | omega))
      refine ih i (by (first | lia | omega)) m r _ _ (by (first | lia | omega)) (by rw [hpl]; (first | lia | omega)) (by rw [hpl]; exact hsz) (by rw [hpl]; exact hnsz) hup _ s12 _ _ _ _ (R'.mono (by (first | lia | omega))) (C11.keeps k12.gd k12.keeps) fun s13 mv13 g13 L13 => ?_
      refine wpAny_execs_nil ?_
      have m13 := (m11.kp k12).trans mv13
      have e2 : m = l + (digs n (j + 1) (x % 2 ^ (n * (j + 1)))).length := by rw [digs_len]; (first | lia | omega)
      rw [show putAt (putAt xs l (digs n (j + 1) (x % 2 ^ (n * (j + 1))))) m (digs n (i + 1) (x / 2 ^ (n * (j + 1)))) = putAt xs l (digs n (k + 1) x) by
        conv => lhs; rw [e2]
        rw [putAt_two xs _ _ (by rw [digs_len, digs_len]; (first | lia | omega)), ← digs_split, hki]] at L13
      exact hQ _ m13 g13 L13
end
end Mine
open PySem PySem.Calls PyProof.Rows PySem.W
set_option Elab.async false
set_option autoImplicit false
set_option linter.unusedVariables false
namespace Mine

noncomputable def nbits (a : Nat) : Nat := Builtin.Int.intBits (a : Int)
noncomputable def i2dLen (n a : Nat) : Nat := (nbits a + n - 1) / n
noncomputable def i2d (n a : Nat) : List Int := digs n (i2dLen n a) a

section
variable {S : Sys} {sc : Scope} {ns : List Str} {base : Heap} {env : Env} {s s' s0 : Shared} {ρ : Ro} {rt : Nat → Addr} {b : Bool} {d : Nat} {q : Md} {p p1 p2 p' : PV} {mg mb : Str → Option Value}
  {f ca ci cn D : Addr} {qual : Str} {xs ys : List Int} {n : Nat} {doc pm cv ctv : Value}

theorem Fm.moved {i : Nat} {x : Str} {ps : List PV} (F : Fm S sc ns base env s.heap ρ rt) (hn : ns[i]? = some x) (hρ : ρ[i]? = some (some (.list ps, .mut))) (mv : Mv S (rt i) s s') (g : Gd S s'.heap) (L : ListIs s'.heap (rt i) xs) :
    NextIs S sc ns true base env ρ rt s s' (ρ.set i (some (.ints xs, .mut))) := by
  obtain ⟨v, fp, V⟩ := F.vars i x _ _ hn hρ
  obtain ⟨v1, v2, ⟨ob, v3, v4, v5⟩, fp', v6, v7⟩ := V.own (by intro h; cases h)
  have lv := V.rp.lives (rt i) (by rw [v6]; exact .head _)
  obtain ⟨ws, ⟨nw, e⟩, iw⟩ := L
  have fl : ob.isFreed = false := (Heap.get?_some_iff.mp v3).2
  obtain ⟨⟨h', tk, rfl⟩, kk⟩ := mv
  let hm : Heap := h'.update (rt i) (fun _ => ob)
  have hmD : hm.get? (rt i) = some ob := Heap.get?_update_self _ e fl
  have hmN : ∀ z, z ≠ rt i → hm.get? z = h'.get? z := fun z hz => Heap.get?_update_other _ _ (Ne.symm hz)
  have sb : Heap.SameBut (rt i) hm h' := ⟨(Heap.SameBut.update h' (rt i) _).1.symm, fun z hz => (hmN z hz).symm⟩
  have hT : S.hT.get? (rt i) = none := F.topNone (v2 _ (by rw [v6]; exact .head _))
  have gm : Gd S hm := g.sameBut (Heap.SameBut.update ..) hT (fun o eo vs hd => by rw [show h'.get? (rt i) = _ from e] at eo; cases eo; cases hd) ⟨_, e⟩
  have k0 : Kp S true s { s with heap := hm, toks := tk } := ⟨hm, tk, rfl, fun z o _ _ ez => by
    by_cases hz : z = rt i
    · subst hz; rw [v3] at ez; cases ez; exact hmD
    · rw [hmN z hz]; exact kk z o hz ez, gm⟩
  have r : Rp S h' (.ref (rt i)) (.ints xs) [rt i] := .list lv.1 ⟨nw, e⟩ (Rps.ofInts iw)
  exact F.mutated k0 hn hρ V sb r (by intro h; cases h) (fun y hy => by cases hy) ⟨_, e, rfl, fun _ h => by cases h⟩ tk

theorem S1.go {A : Around} {st : Stmt} {Φ : Out → Prop} {Q : Flow → Shared → Prop} (R : Room d A) (F : Fm S sc ns base env s.heap ρ rt) (h : S1 S sc ns b d ρ st Φ) (hQ : ∀ o f s', Φ o → OutIs S sc ns b base env ρ rt s f s' o → Q f s') : wpAny (model S.prog S.w) A (exec st env) Q No s := h A base env s rt Q R F hQ

theorem ints_of {h : Heap} {ps : List PV} {D : Addr} {fp : List Addr} (hp : ps = xs.map .int) (r : Rp S h (.ref D) (.list ps) fp) : ListIs h D xs := by
  subst hp
  cases r with
  | list h1 h2 h3 => exact ⟨_, h2, h3.ints.1⟩

theorem i2d_ok {a c : Addr} {fd : FuncData} {t : Tab} {x n : Nat} (W : S.Ok mg mb) (T : TopFn S mg 5 a fd) (hc : fd.code = .ref c) (K : Maker S mg c t) (ht : t.line = (stPos i2dIn).line ∧ t.col = (stPos i2dIn).col)
    (hqn : fd.qualname ++ ".<locals>." ++ "inner" = t.qual) (hn0 : 0 < n) (hnn : n < 2 ^ 19) {B : Nat} (hB : B ≤ 2 ^ 19) (hx : x < 2 ^ B) (hd : i2dLen n x ≤ d) (hlen : GName S (stScope (topAt 5)) "len" (.builtin "len")) :
    CallOk S false (d + 1) (.ref a) [.int x, .int n] (.ints (i2d n x)) := by
  obtain ⟨o, ho, hdata⟩ := T.ob
  have hbit : nbits x ≤ B := bits_lt hx
  have hln : i2dLen n x < 2 ^ 20 := by
    have : i2dLen n x ≤ nbits x + n - 1 := Nat.div_le_self _ _
    (first | lia | omega)
  have hnl : n * i2dLen n x ≤ 2 ^ 26 := by
    have := Nat.mul_div_le (nbits x + n - 1) n
    unfold i2dLen
    (first | lia | omega)
  refine fn_ok0 (params := ["a", "n"]) (rest := ["a_digits", "inner"]) W ho hdata T.code T.body T.clo T.glob T.blt (by rw [T.scope]; rfl) (by rw [T.scope]; rfl) (by rw [T.scope]; rfl) (fun vs hv => ?_) rfl (by rw [T.scope]; decide) (by decide) fun A env base s Q R F hcode hqual hQ => ?_
  · exact vec2 (P := fun vs => bindArgs fd ⟨vs, []⟩ = pure ((["a", "n"] : List Str).zip vs)) (fun _ _ => bind_ok T.params T.dfl fun fd => rfl) vs hv
  · rw [T.scope] at F hQ
    have cell : ∀ x, (stScope (topAt 5)).names.lookup x = some .cell → ∃ c, env.cells.lookup x = some c := fun x e => Option.isSome_iff_exists.mp (F.cellsAll x e)
    obtain ⟨ca, hca⟩ := cell "a_digits" rfl
    obtain ⟨cn, hcn⟩ := cell "n" rfl
    obtain ⟨ci, hci⟩ := cell "inner" rfl
    have hne : ca ≠ ci ∧ ca ≠ cn ∧ ci ≠ cn := ⟨fun e => absurd (F.cellInj _ _ _ hca (e ▸ hci)) (by decide), fun e => absurd (F.cellInj _ _ _ hca (e ▸ hcn)) (by decide), fun e => absurd (F.cellInj _ _ _ hci (e ▸ hcn)) (by decide)⟩
    have hclos : closureFor (stScope i2dIn) env = pure [(("n" : Str), cn), ("inner", ci), ("a_digits", ca)] := by
      rw [closureFor_is (fun n k hm hk => ?_)]
      · show (pure [(("n" : Str), (env.cells.lookup ("n" : Str)).getD 0), ("inner", (env.cells.lookup ("inner" : Str)).getD 0), ("a_digits", (env.cells.lookup ("a_digits" : Str)).getD 0)] : Sem _) = _
        rw [hca, hcn, hci]; rfl
      · subst hk
        have : n = "a_digits" ∨ n = "inner" ∨ n = "n" := by
          have hm' : (n, NameKind.free) ∈ [(("x" : Str), NameKind.local), ("L", .local), ("R", .local), ("mid", .local), ("shift", .local), ("upper", .local), ("lower", .local), ("a_digits", .free), ("inner", .free), ("n", .free)] := hm
          simp at hm'
          exact hm'
        rcases this with rfl | rfl | rfl
        · rw [hca]; rfl
        · rw [hci]; rfl
        · rw [hcn]; rfl
    have hqi : qualnameIn env "inner" "inner" = t.qual := by
      unfold qualnameIn
      rw [if_neg, hqual, hqn]
      have := F.kindOf' (x := "inner") .cell rfl (by intro h; cases h)
      rw [this]; decide
    have el : (((Builtin.Int.intBits (x : Int) : Nat) : Int) + n - 1).fdiv n = ((i2dLen n x : Nat) : Int) := by
      rw [Int.fdiv_eq_ediv_of_nonneg _ (by (first | lia | omega))]
      unfold i2dLen nbits
      rw [Int.natCast_ediv]
      congr 1
      (first | lia | omega)
    have hl2 : (n : Int).natAbs.log2 < 9000 := by
      rw [Int.natAbs_natCast]
      exact Nat.lt_trans ((Nat.log2_lt (by (first | lia | omega))).mpr hnn) (by decide)
    refine wpAny_execs_cons ?_
    refine S1.go (b := false) (d := d) (Φ := fun o => o = .next _) R F (S1.assignOwn (p := .list (List.replicate (((i2dLen n x : Nat) : Int).toNat) (.int 0))) 2 rfl (Ev.op2 (q1 := .R) (q2 := .R) (Ev.list (Evs.cons Ev.cint Evs.nil)) (Ev.op2 (q1 := .R) (q2 := .R) (Ev.op2 (q1 := .R) (q2 := .R) (Ev.op2 (q1 := .R) (q2 := .R) (Ev.meth0 (q0 := .R) (p1 := .int x) PySem.F.plainAttrs_int PySem.F.slot_int_bit_length PySem.F.type_int_bit_length (Ev.var 0 rfl rfl rfl) (fun s v fp r => by (first | obtain ⟨_, rfl, rfl⟩ := r.inv | cases r); exact ⟨rfl, fun a h => by cases h⟩) c_bits) (Ev.var 1 rfl rfl rfl) o_add) Ev.cint o_sub) (Ev.var 1 rfl rfl rfl) ((o_fdiv (by (first | lia | omega)) hl2).to el)) (o_lmul (n := ((i2dLen n x : Nat) : Int)) rfl (by (first | lia | omega)) (by (first | lia | omega)))) (flat_atoms (by simp [PV.atom])) rfl (by decide) (by decide)) fun o f1 s1 hΦ oi => ?_
    subst hΦ
    obtain ⟨rfl, st1, rt1, ro1, F1⟩ := oi
    rw [Int.toNat_natCast] at F1 ro1
    generalize hρ1 : (List.map (fun p => some (p, Own.imm)) [PV.int x, PV.int n] ++ List.replicate (["a_digits", "inner"] : List Str).length none).set 2 (some (PV.list (List.replicate (i2dLen n x) (PV.int 0)), Own.mut)) = ρ1 at F1 ro1
    refine wpAny_execs_cons ?_
    show wpAny _ A (exec (.FunctionDef "inner" (stParams i2dIn) (stBody i2dIn) [] none [] (stScope i2dIn) none "inner" (stPos i2dIn)) env) _ No s1
    refine nestDef_K rfl rfl rfl ?_
    rw [hqi]
    refine make_ok W K F1.gd F1.glob (hcode.trans hc) hclos ht.1 ht.2 fun f h2 tk2 doc cv ctv kp2 g2 fr2 fTB hfn hcv => ?_
    have keep2 : ∀ x o, x ∉ S.TB → s1.heap.get? x = some o → h2.get? x = some o := fun x o hx e => kp2 x o id (.inr hx) e
    have F2 := F1.grow keep2 g2
    obtain ⟨hbI, v0, cI0⟩ := F2.cellB ci ⟨_, hci⟩
    refine wpAny_storeName_cell (s := { s1 with heap := h2, toks := tk2 }) F.kind (F.kindOf' .cell rfl (by intro h; cases h)) hci cI0 fun h3 cI3 hs3 => ?_
    have hxi : ∀ (i : Nat) (z : PV × Own), ((["a", "n"] : List Str) ++ (["a_digits", "inner"] : List Str))[i]? = some "inner" → ρ1[i]? ≠ some (some z) := fun i z e e' => by
      have hi4 : i < 4 := (List.getElem?_eq_some_iff.mp e).1
      subst hρ1
      match i, hi4 with
      | 0, _ => exact absurd e (by decide)
      | 1, _ => exact absurd e (by decide)
      | 2, _ => exact absurd e (by decide)
      | 3, _ => cases e'
    have F3 := F2.cellStore hci hs3 cI3 hxi
    have hfci : f ≠ ci := fun e => by
      obtain ⟨_, v, o, e1, _⟩ := F1.cellB ci ⟨_, hci⟩
      rw [← e, fr2] at e1; cases e1
    have hρA : ρ1[2]? = some (some (.list (List.replicate (i2dLen n x) (.int 0)), .mut)) := by subst hρ1; rfl
    have hρN : ρ1[1]? = some (some (.int n, .imm)) := by subst hρ1; rfl
    have hρX : ρ1[0]? = some (some (.int x, .imm)) := by subst hρ1; rfl
    obtain ⟨va, fpa, Va⟩ := F3.vars 2 "a_digits" _ _ rfl hρA
    obtain ⟨w1, w2, ⟨ob, w3, w4, w5⟩, fpa', w6, w7⟩ := Va.own (by intro h; cases h)
    subst w1
    have cA : h3.IsCell ca (some (.ref (rt1 2))) := by
      rcases Va.rd with ⟨r1, _⟩ | ⟨_, c, r2, r3⟩
      · rw [F.kindOf' .cell rfl (by intro h; cases h)] at r1; (first | obtain ⟨_, rfl, rfl⟩ := r1.inv | cases r1)
      · rw [hca] at r2; (first | obtain ⟨_, rfl, rfl⟩ := r2.inv | cases r2); exact r3
    have cNr : ∃ tn, h3.IsCell cn (some (.int n tn)) := by
      obtain ⟨v, fp, V⟩ := F3.vars 1 "n" _ _ rfl hρN
      rcases V.rd with ⟨r1, _⟩ | ⟨_, c, r2, r3⟩
      · rw [F.kindOf' .cell rfl (by intro h; cases h)] at r1; (first | obtain ⟨_, rfl, rfl⟩ := r1.inv | cases r1)
      · rw [hcn] at r2; (first | obtain ⟨_, rfl, rfl⟩ := r2.inv | cases r2)
        have := V.rp
        cases this
        exact ⟨_, r3⟩
    have hcv3 : h3.CodeRec cv t.qual := by
      obtain ⟨c0, o0, vs0, t0, q1, q2, q3, q4⟩ := hcv
      refine ⟨c0, o0, vs0, t0, q1, (hs3.2 _ fun he => ?_).trans q2, q3, q4⟩
      obtain ⟨oI, e1, e2⟩ := cI0
      rw [he, e1] at q2; (first | obtain ⟨_, rfl, rfl⟩ := q2.inv | cases q2); rw [e2] at q3; (first | obtain ⟨_, rfl, rfl⟩ := q3.inv | cases q3)
    have hrep : List.replicate (i2dLen n x) (PV.int 0) = (List.replicate (i2dLen n x) (0 : Int)).map .int := by rw [List.map_replicate]
    have C : ICtx S h3 f ca ci cn (rt1 2) t.qual (List.replicate (i2dLen n x) 0) n doc ((mg "__name__").getD .none) cv ctv :=
      ⟨F3.gd, (hs3.2 _ hfci).trans hfn, fTB, hcv3, cA, cI3, cNr, ⟨F.topNone (F.cellB ca ⟨_, hca⟩).1, F.topNone (F.cellB ci ⟨_, hci⟩).1, F.topNone (F.cellB cn ⟨_, hcn⟩).1, F.topNone (w2 _ (by rw [w6]; exact .head _))⟩, hne,
        (Va.rp.lives _ (by rw [w6]; exact .head _)).1, ints_of hrep Va.rp⟩
    have st3 : Stp S false env ρ1 rt1 s1 { s1 with heap := h3, toks := tk2 } := by
      refine ⟨⟨h3, tk2, rfl⟩, fun x o hx hb e => ?_, fun x o e => ?_⟩
      · have : x ≠ ci := fun he => hx (.inr (.inl (he ▸ ⟨_, hci⟩)))
        exact (hs3.2 x this).trans (kp2 x o id hb e)
      · by_cases hxc : x = ci
        · obtain ⟨oI, e1, _⟩ := cI3; exact ⟨oI, hxc ▸ e1⟩
        · obtain ⟨o', e'⟩ := TabOk.alive g2 keep2 x o e
          exact ⟨o', (hs3.2 x hxc).trans e'⟩
    -- the return of the list
    have fin : ∀ {s5 : Shared} {ρ5 : Ro} {rt5 : Nat → Addr} {fl : Flow} {s6 : Shared}, Stp S false env ρ1 rt1 { s1 with heap := h3, toks := tk2 } s5 → RootOk ρ1 rt1 h3 ρ5 rt5 → OutIs S (stScope (topAt 5)) ((["a", "n"] : List Str) ++ (["a_digits", "inner"] : List Str)) false base env ρ5 rt5 s5 fl s6 (.ret (.ints (i2d n x))) → Q fl s6 := fun st5 ro5 oi =>
      hQ _ _ (OutIs.trans st1 ro1 (OutIs.trans st3 .refl (OutIs.trans st5 ro5 oi)))
    refine wpAny_execs_cons (wpAny_If (Tr.go (b := true) (s := { s1 with heap := h3, toks := tk2 }) R F3 (Tr.int (q1 := .R) (Ev.var 0 rfl hρX rfl)) fun s4 k4 => ?_))
    by_cases hx0 : x = 0
    · have e1 : ((x : Int) != 0) = false := by rw [hx0]; rfl
      rw [e1]
      simp only [Bool.false_eq_true, if_false]
      refine wpAny_execs_nil ?_
      refine wpAny_execs_cons (S1.go (b := false) (Φ := fun o => o = .ret (.ints (i2d n x))) R (F3.kp k4) (S1.retOwn 2 rfl hρA (by intro h; cases h) ?_) fun o f5 s5 hΦ oi => ?_)
      · have e2 : i2dLen n x = 0 := by
          unfold i2dLen nbits
          rw [hx0]
          show (0 + n - 1) / n = 0
          exact Nat.div_eq_of_lt (by (first | lia | omega))
        unfold i2d
        rw [e2]; rfl
      · subst hΦ
        have := fin (.ofKp k4.weak) .refl oi
        obtain ⟨v, fp, rfl, _⟩ := oi
        exact this
    · have e1 : ((x : Int) != 0) = true := by simpa using hx0
      rw [e1]
      simp only [if_true]
      have C4 := C.keeps k4.gd k4.keeps
      have F4 := F3.kp k4
      have hl0 : 0 < i2dLen n x := by
        unfold i2dLen
        have : 0 < nbits x := by unfold nbits Builtin.Int.intBits; rw [if_neg (by simpa using hx0)]; (first | lia | omega)
        exact Nat.div_pos (by (first | lia | omega)) hn0
      refine wpAny_execs_cons (wpAny_Expr_any (call_named (s := s4) (b := true) R F4 (.inr ⟨.inl (F.kindOf' .cell rfl (by intro h; cases h)), ci, hci, C4.cI⟩) ⟨_, _, _, _, C4.fn⟩ fTB (Evs.cons (q := .R) (Ev.var 0 rfl hρX rfl) (Evs.cons Ev.cint (Evs.cons (Ev.call (q1 := .R) hlen (.blt _) (Evs.cons (Ev.var 2 rfl hρA rfl) Evs.nil) (c_lenList (by rw [List.length_replicate]; (first | lia | omega)))) Evs.nil))) fun vs s5 fp k5 r5 => ?_) (notInteractive F4))
      obtain ⟨v1, v2, v3, rfl, q1, q2, q3⟩ := r5.three
      obtain ⟨_, q1⟩ := q1
      obtain ⟨_, q2⟩ := q2
      obtain ⟨_, q3⟩ := q3
      (first | obtain ⟨_, rfl, rfl⟩ := q1.inv | cases q1); (first | obtain ⟨_, rfl, rfl⟩ := q2.inv | cases q2); (first | obtain ⟨_, rfl, rfl⟩ := q3.inv | cases q3)
      rw [List.length_replicate]
      refine i2d_inner W (Nat.lt_trans hnn (by decide)) (B := B) (by (first | lia | omega)) (i2dLen n x - 1) 0 (i2dLen n x) x _ (by (first | lia | omega)) (by rw [List.length_replicate]; exact Nat.le_refl _) (by rw [List.length_replicate]; exact hln) (by rw [List.length_replicate]; exact hnl) hx _ s5 _ _ _ _ (R.mono (by (first | lia | omega))) (C4.keeps k5.gd k5.keeps) fun s6 mv6 g6 L6 => ?_
      have e3 : putAt (List.replicate (i2dLen n x) 0) 0 (digs n (i2dLen n x - 1 + 1) x) = i2d n x := by
        rw [Nat.sub_add_cancel hl0]
        unfold putAt i2d
        rw [List.take_zero, List.nil_append, List.drop_of_length_le (by rw [digs_len, List.length_replicate]; (first | lia | omega)), List.append_nil]
      rw [e3] at L6
      refine wpAny_execs_nil ?_
      have F5 := F4.kp k5
      obtain ⟨st6, rt6, ro6, F6⟩ := F5.moved (i := 2) rfl hρA mv6 g6 L6
      have hρ6 : (ρ1.set 2 (some (.ints (i2d n x), Own.mut)))[2]? = some (some (.ints (i2d n x), .mut)) := by subst hρ1; rfl
      refine wpAny_execs_cons (S1.go (b := false) (Φ := fun o => o = .ret (.ints (i2d n x))) R F6 (S1.retOwn 2 rfl hρ6 (by intro h; cases h) rfl) fun o f7 s7 hΦ oi => ?_)
      subst hΦ
      have k45 := k4.trans k5
      have st36 : Stp S false env ρ1 rt1 { s1 with heap := h3, toks := tk2 } s6 := by
        have a : Stp S true env ρ1 rt1 { s1 with heap := h3, toks := tk2 } s6 := (Stp.ofKp k45).trans .refl st6
        exact ⟨a.same, fun x o hx hb e => a.keep x o hx (.inl rfl) e, a.alive⟩
      have := fin st36 (RootOk.trans (b := true) (env := env) (Stp.ofKp k45) .refl ro6) oi
      obtain ⟨v, fp, rfl, _⟩ := oi
      exact this
end
end Mine
open PySem PySem.Calls PyProof.Rows PySem.W
set_option Elab.async false
set_option autoImplicit false
set_option linter.unusedVariables false
namespace Mine
section
variable {S : Sys} {sc : Scope} {ns : List Str} {base : Heap} {env : Env} {s s' s0 : Shared} {ρ : Ro} {rt : Nat → Addr} {b : Bool} {d : Nat} {q : Md} {p p1 p2 p' : PV} {mg mb : Str → Option Value}

theorem callType_okM {A : Around} {T : String} {pos : Pos} {e : Expr} {es : List Expr} {ps : List PV} {Q : Value → Shared → Prop} (ha : Evs S sc ns b d q ρ (e :: es) ps) (R : Room d A) (F : Fm S sc ns base env s.heap ρ rt)
    (he : starEach (e :: es) env = (false, eval e env) :: starEach es env) (hp : (backTo pos (starEach (e :: es) env)).any (·.1) = false)
    (h : ∀ vs s' fp, Kp S b s s' → Rps S s'.heap vs ps fp → MdOk q s env ρ rt fp → wpAny (model S.prog S.w) A (call (.type T) vs) Q No s') :
    wpAny (model S.prog S.w) A (callWith pos (.type T) [] (backTo pos (starEach (e :: es) env)) []) Q No s := by
  have hb : backTo pos (starEach (e :: es) env) = (false, eval e env) :: backTo pos (starEach es env) := by rw [he]; rfl
  refine PySem.callWith_type hp ?_
  have := ha A base env s rt pos (fun vs s' => wpAny (model S.prog S.w) A (call (.type T) ([] ++ vs) []) Q No s') R F fun vs s' fp k r m => h vs s' fp k r m
  rw [hb] at this ⊢
  exact evalArgs_plain this

theorem walks_lt {prog : Program} {w : World} {A : Around} {I : Addr} {fp wr : List Addr} {n : Nat} {P : Nat → Value → Prop} {St : Nat → Heap → Prop} (W : Walks prog w A I fp wr n P St) : Walks prog w A I fp wr n (fun j v => j < n ∧ P j v) St where
  sub := W.sub
  frame := W.frame
  item := fun i s Q E hi x hQ => W.item i s Q E hi x fun v h' tk hp st keep => hQ v h' tk ⟨hi, hp⟩ st keep
  done := W.done
  self := W.self

theorem It.reversed {e : Expr} {np pos : Pos} {ps : List PV} (g : GName S sc "reversed" (.type "reversed")) (h : Ev S sc ns b d .N ρ e (.list ps)) (ha : ps.all (·.atom) = true)
    (he : ∀ env, starEach [e] env = [(false, eval e env)] := by intro _; rfl) : It S sc ns b d ρ (.Call (.Name "reversed" np) [e] [] pos) ps.reverse := by
  intro A base env s rt Q R F hQ
  have ht : backTo pos (starEach [e] env) = [(false, eval e env)] := by rw [he env]; rfl
  refine wpAny_Call_NameR (g.eval F ?_ (by decide))
  refine callType_okM (Evs.cons h Evs.nil (fun env => he env)) R F (he env) (by rw [ht]; rfl) fun vs s1 fp k r m => ?_
  obtain ⟨v, rfl, r'⟩ := r.one
  cases r' with
  | @list a vs _ fpl g1 g2 g3 =>
  have e0 := g3.allAtoms ha
  subst e0
  refine call_reversed_list g2.isList ?_
  have keep := Heap.push_keeps (h := s1.heap) (revObj a ((vs.toArray.size : Int) - 1))
  have hit : (s1.heap.push (revObj a ((vs.toArray.size : Int) - 1))).IsRevIter s1.heap.objs.size a ((vs.toArray.size : Int) - 1) := ⟨_, Heap.get?_push_size _ rfl, rfl, rfl⟩
  refine wpAny_pyIter_revIter (s := { s1 with heap := s1.heap.push (revObj a ((vs.toArray.size : Int) - 1)) }) hit ?_
  obtain ⟨n, e⟩ := id g2
  have hne : a ≠ s1.heap.objs.size := fresh_ne e
  have W := walks_lt (Walks.listRev (prog := S.prog) (w := S.w) R.hd s1.heap.objs.size a hne vs.toArray)
  have hsz : vs.toArray.size = ps.reverse.length := by rw [List.size_toArray, g3.length, List.length_reverse]
  have hsz' : vs.length = ps.length := g3.length
  rw [hsz] at W
  refine hQ _ s1.heap.objs.size [s1.heap.objs.size, a] _ _ ⟨k.trans (Kp.of_keeps (tk := s1.toks) k.gd keep), k.dead (fresh_size _), W, ?_, fun x hx => ?_, fun j h st => ?_, fun j v hv => ?_⟩
  · refine ⟨Nat.zero_le _, ?_, g2.isList.at fun o e => keep _ o e⟩
    rw [← hsz]; simpa using hit
  · rcases List.mem_cons.mp hx with rfl | hx
    · refine ⟨size_notTB k.gd, fun ho => ?_, _, Heap.get?_push_size _ rfl⟩
      exact MdOk.ofF F (fp := [s1.heap.objs.size]) (fun y hy => by cases hy with | head => exact k.dead (fresh_size _) | tail _ h => cases h) .N _ (.head _) ho
    · rcases List.mem_cons.mp hx with rfl | hx
      · exact ⟨g1, m _ (.head _), _, keep _ _ e⟩
      · cases hx
  · obtain ⟨_, ⟨o, e1, e2, e3⟩, _⟩ := st
    exact ⟨o, _, e1, (by rw [e2]; intro h; cases h), e3, fun x t h => by simp [rawInt] at h⟩
  · obtain ⟨hj, hv⟩ := hv
    rw [List.length_reverse] at hj hv
    have hv' : vs[ps.length - 1 - j]? = some v := by simpa using hv
    obtain ⟨p, f, e1, e2, e3⟩ := g3.get' hv'
    have : f = [] := List.eq_nil_iff_forall_not_mem.mpr fun x hx => by cases e3 x hx
    subst this
    exact ⟨p, [], by rw [List.getElem?_reverse hj]; exact e1, e2.mono fun x hx => (by cases hx), Clean.nil⟩

theorem reverse_rps {h : Heap} {vs : List Value} {ps : List PV} (r : Rps S h vs ps []) : Rps S h vs.reverse ps.reverse [] := by
  have gen : ∀ {vs : List Value} {ps : List PV} {fp : List Addr}, Rps S h vs ps fp → fp = [] → Rps S h vs.reverse ps.reverse [] := by
    intro vs
    induction vs with
    | nil => intro ps fp r e; (first | obtain ⟨_, rfl, rfl⟩ := r.inv | cases r); exact .nil
    | cons v vs ih =>
      intro ps fp r e
      cases r with
      | cons a b =>
        obtain ⟨e1, e2⟩ := List.append_eq_nil_iff.mp e
        subst e1; subst e2
        rw [List.reverse_cons, List.reverse_cons]
        have := (ih b rfl).append (.cons (f1 := []) a .nil)
        simpa using this
  exact gen r rfl

theorem S1.reverse {x : Str} {xp ap cp pos : Pos} {ps : List PV} {Φ : Out → Prop} (i : Nat) (hn : ns[i]? = some x) (hρ : ρ[i]? = some (some (.list ps, .mut))) (ha : ps.all (·.atom) = true) (hsz : ps.length ≤ sizeLine)
    (hΦ : Φ (.next (ρ.set i (some (.list ps.reverse, .mut))))) (hd : (x == ("__debug__" : Str)) = false := by decide)
    (hline : (ap.endLine == cp.line) = true := by rfl)
    (hs : ∀ env, swapsWith (.Call (.Attribute (.Name x xp) "reverse" ap) [] [] cp) none pos.line env = pure false := by intro _; rfl) :
    S1 S sc ns b d ρ (.Expr (.Call (.Attribute (.Name x xp) "reverse" ap) [] [] cp) pos) Φ := by
  intro A base env s rt Q R F hQ
  obtain ⟨v, fp, V⟩ := F.vars i x _ _ hn hρ
  obtain ⟨v1, v2, ⟨ob, v3, v4, v5⟩, fp0', v6, v7⟩ := V.own (by intro h; cases h)
  subst v1
  have rp := V.rp
  cases rp with
  | @list _ vs _ fpl g1 g2 g3 =>
  have e0 := g3.allAtoms ha
  subst e0
  obtain ⟨n, e⟩ := id g2
  refine wpAny_Expr_any ?_ (notInteractive F) (hs env)
  refine wpAny_Call_method (T := "list") (id := "list.reverse") rfl rfl hline PySem.F.plainAttrs_list PySem.F.slot_list_reverse PySem.F.type_list_reverse (Var.name F V hd ?_)
  refine ⟨⟨_, e, rfl⟩, fun a ha => ⟨_, by cases ha; exact e, rfl⟩, callWith_builtin rfl (PySem.evalArgs_none ?_)⟩
  refine call_meets PySem.F.slot_list_reverse ⟨_, e, rfl⟩ PySem.F.entry_list_reverse (PySem.F.args_list_reverse_1 _) (AutoListH.list_reverse_list_0 (rt i) vs.toArray n (by rw [List.size_toArray, g3.length]; exact hsz)) ⟨e, ?_⟩
  have sb : Heap.SameBut (rt i) s.heap (s.heap.update (rt i) (Obj.mapSeq fun x => x.reverse)) := Heap.SameBut.update ..
  have eo : Obj.mapSeq (fun x => x.reverse) { cls := .type "list", data := .seq vs.toArray n } = { cls := .type "list", data := .seq vs.reverse.toArray n } := by
    simp [Obj.mapSeq]
  have eg : (s.heap.update (rt i) (Obj.mapSeq fun x => x.reverse)).get? (rt i) = some { cls := .type "list", data := .seq vs.reverse.toArray n } := by
    rw [Heap.get?_update_self _ e (by rw [eo]; rfl), eo]
  have new : Rps S (s.heap.update (rt i) (Obj.mapSeq fun x => x.reverse)) vs.reverse ps.reverse [] := (reverse_rps g3).mono fun y hy => by cases hy
  exact hQ _ .next _ hΦ ⟨rfl, F.mutated (b := b) (Kp.refl F.gd) hn hρ V sb (.list g1 ⟨n, eg⟩ new) (by intro h; cases h) (fun y hy => by cases hy) ⟨_, eg, rfl, fun _ h => by cases h⟩ s.toks⟩
end
end Mine
open PySem PySem.Calls PyProof.Rows PySem.W
set_option Elab.async false
set_option autoImplicit false
set_option linter.unusedVariables false
namespace Mine
section
variable {S : Sys} {sc : Scope} {ns : List Str} {base : Heap} {env : Env} {s s' s0 : Shared} {ρ ρ' : Ro} {rt : Nat → Addr} {b : Bool} {d : Nat} {q : Md} {p p1 p2 p' : PV} {mg mb : Str → Option Value}

theorem Le.nil : Le [] [] := ⟨rfl, fun i x e => by simp at e⟩
theorem Le.same {y : Option (PV × Own)} (h : Le ρ' ρ) : Le (y :: ρ') (y :: ρ) := ⟨by simp [h.1], fun i x e => by
  cases i with
  | zero => exact e
  | succ i => exact h.2 i x (by simpa using e)⟩
theorem Le.drop {y : Option (PV × Own)} (h : Le ρ' ρ) : Le (none :: ρ') (y :: ρ) := ⟨by simp [h.1], fun i x e => by
  cases i with
  | zero => simp at e
  | succ i => exact h.2 i x (by simpa using e)⟩

structure Bn (mg : Str → Option Value) : Prop where
  len : mg "len" = none
  range : mg "range" = none
  sum : mg "sum" = none
  max : mg "max" = none
  min : mg "min" = none
  list : mg "list" = none
  hex : mg "hex" = none
  divmod : mg "divmod" = none
  reversed : mg "reversed" = none
  sorted : mg "sorted" = none

noncomputable def numStep (vs cur : List Int) (k : Nat) : List Int := cur.set (k % cur.length) (cur.getD (k % cur.length) 0 + (vs.getD k 0).fmod 1000000)
noncomputable def numAfter (vs st : List Int) (j : Nat) : List Int := (List.range j).foldl (numStep vs) st
theorem numStep_len (vs cur : List Int) (k : Nat) : (numStep vs cur k).length = cur.length := by simp [numStep]
theorem numAfter_succ (vs st : List Int) (j : Nat) : numAfter vs st (j + 1) = numStep vs (numAfter vs st j) j := by simp [numAfter, List.range_succ]
theorem numAfter_len (vs st : List Int) : ∀ j, (numAfter vs st j).length = st.length
  | 0 => rfl
  | j + 1 => by rw [numAfter_succ, numStep_len, numAfter_len vs st j]

theorem atoms_ints (l : List Int) : (l.map PV.int).all (·.atom) = true := by simp [PV.atom]
theorem atoms_strs (l : List Str) : (l.map PV.str).all (·.atom) = true := by simp [PV.atom]

theorem range_get {n j : Nat} {p : PV} (h : ((List.range n).map fun (i : Nat) => PV.int i)[j]? = some p) : j < n ∧ p = .int j := by
  rw [List.getElem?_map] at h
  by_cases hj : j < n
  · rw [List.getElem?_range hj] at h; cases h; exact ⟨hj, rfl⟩
  · rw [List.getElem?_eq_none (by simp; (first | lia | omega))] at h; cases h
theorem fmod_nat (a n : Nat) : (a : Int).fmod n = ((a % n : Nat) : Int) := by
  rw [Int.fmod_eq_emod_of_nonneg _ (by (first | lia | omega))]; rfl
theorem set_ints (l : List Int) (k : Nat) (x : Int) : (l.map PV.int).set k (.int x) = (l.set k x).map PV.int := by rw [List.map_set]
theorem get_ints {l : List Int} {k : Nat} (h : k < l.length) : (l.map PV.int)[k]? = some (.int (l.getD k 0)) := by
  rw [List.getElem?_map, List.getElem?_eq_getElem h]; simp [List.getD, List.getElem?_eq_getElem h]
theorem numbers_body {vs st : List Int} (W : S.Ok mg mb) (B : Bn mg) (hv : vs.length < 2 ^ 20) (h0 : 0 < st.length) (hs : st.length < 2 ^ 20) :
    Sx S (stScope (topAt 18)) ["script", "start", "numbers", "k"] b d [some (.ints vs, .imm), some (.ints st, .imm), none, none] (stBody (topAt 18)) (fun o => o = .ret (.ints (numAfter vs st vs.length))) := by
  refine Sx.cons (S1.assignOwn 2 rfl (Ev.call (q1 := .R) (.blt W rfl B.list rfl (by decide)) (.type _) (Evs.cons (Ev.var 1 rfl rfl rfl) Evs.nil) (c_list (atoms_ints _) (by simp only [List.length_map, sizeLine]; (first | lia | omega)))) (flat_atoms (atoms_ints _)) ?_ (by decide) (by decide))
  refine Sx.cons (S1.for 3 rfl (It.range1 (.blt W rfl B.range rfl (by decide)) (Ev.call (q1 := .R) (q := .R) (.blt W rfl B.len rfl (by decide)) (.blt _) (Evs.cons (Ev.var 0 rfl rfl rfl) Evs.nil) (c_lenList (by rw [List.length_map]; (first | lia | omega)))) (by (first | lia | omega)) (by rw [List.length_map]; (first | lia | omega)))
    (fun j => [some (.ints vs, .imm), some (.ints st, .imm), some (.ints (numAfter vs st j), .mut), none]) Le.refl ?_ ?_ (by decide) (by decide))
  · intro j p hj
    obtain ⟨hj', rfl⟩ := range_get hj
    clear hj
    rw [List.length_map, Int.toNat_natCast] at hj'
    have hm : j % st.length < st.length := Nat.mod_lt _ h0
    have hl := numAfter_len vs st j
    refine Sx.cons (S1.augItem (k := ((j % st.length : Nat) : Int)) (q1 := .R) (q2 := .R) 2 rfl rfl (Ev.op2 (q1 := .R) (q2 := .R) (Ev.var 3 rfl rfl rfl) (Ev.call (q1 := .R) (.blt W rfl B.len rfl (by decide)) (.blt _) (Evs.cons (Ev.var 1 rfl rfl rfl) Evs.nil) (c_lenList (by rw [List.length_map]; (first | lia | omega))))
      ((o_mod (by rw [List.length_map]; (first | lia | omega))).to (by rw [List.length_map]; exact fmod_nat _ _))) (by rw [Int.toNat_natCast]; exact get_ints (by rw [hl]; exact hm))
      (Ev.op2 (q1 := .R) (q2 := .R) (Ev.idxA (q0 := .R) (q1 := .R) (k := (j : Int)) (Ev.var 0 rfl rfl rfl) (Ev.var 3 rfl rfl rfl) (by (first | lia | omega)) (by (first | lia | omega)) (by rw [Int.toNat_natCast]; exact get_ints hj') rfl) Ev.cint (o_mod (by decide))) i_add rfl (atoms_ints _) (by (first | lia | omega)) (by (first | lia | omega)) ?_)
    refine Sx.nil ?_
    have e1 : numAfter vs st (j + 1) = (numAfter vs st j).set (j % st.length) ((numAfter vs st j).getD (j % st.length) 0 + (vs.getD j 0).fmod 1000000) := by rw [numAfter_succ]; unfold numStep; rw [hl]
    show Le [some (.ints vs, .imm), some (.ints st, .imm), some (.ints (numAfter vs st (j + 1)), .mut), none] _
    rw [Int.toNat_natCast, set_ints, e1]
    exact (Le.same (Le.same (Le.same (Le.drop Le.nil))))
  · refine Sx.nil ?_
    refine Sx.cons (S1.retOwn 2 rfl rfl (by intro h; cases h) ?_)
    show Out.ret _ = _
    rw [List.length_map, List.length_range, List.length_map, Int.toNat_natCast]
end
end Mine
open PySem PySem.Calls PyProof.Rows PySem.W
set_option Elab.async false
set_option autoImplicit false
set_option linter.unusedVariables false
namespace Mine
section
variable {S : Sys} {sc : Scope} {ns : List Str} {base : Heap} {env : Env} {s s' s0 : Shared} {ρ ρ' : Ro} {rt : Nat → Addr} {b : Bool} {d : Nat} {q : Md} {p p1 p2 p' : PV} {mg mb : Str → Option Value}

noncomputable def onNat {α : Type} (dflt : α) (g : Nat → α) : PV → α
  | .int i => g i.toNat
  | _ => dflt
noncomputable def onInt {α : Type} (dflt : α) (g : Int → α) : PV → α
  | .int i => g i
  | _ => dflt
noncomputable def onStr {α : Type} (dflt : α) (g : Str → α) : PV → α
  | .str i => g i
  | _ => dflt

theorem filt_map {α : Type} (inj : α → PV) (tst : PV → Bool) (f : PV → PV) (t : α → Bool) (g : α → PV) (h1 : ∀ a, tst (inj a) = t a) (h2 : ∀ a, f (inj a) = g a) : ∀ l : List α, ((l.map inj).filter tst).map f = (l.filter t).map g
  | [] => rfl
  | a :: l => by
    have ih := filt_map inj tst f t g h1 h2 l
    rw [List.map_cons, List.filter_cons, List.filter_cons, h1]
    cases t a
    · exact ih
    · simp only [if_true, List.map_cons, h2, ih]

theorem atoms_range (n : Nat) : ((List.range n).map fun (i : Nat) => PV.int i).all (·.atom) = true := by simp [PV.atom]

theorem Ev.compR {elt iter : Expr} {x : Str} {px : Pos} {ifs : List Expr} {scope : Scope} {pos : Pos} {n : Nat} {t : Nat → Bool} {f : Nat → PV} (caps : List Nat) (ok : CompOk sc ns scope x caps) (hit : It S sc ns b d ρ iter ((List.range n).map fun (i : Nat) => PV.int i))
    (hsz : n ≤ sizeLine) (ht : ∀ j, j < n → TrC S scope (capNs ns x caps) true d (capRo ρ (.int j) caps) ifs (t j))
    (he : ∀ j, j < n → t j = true → Ev S scope (capNs ns x caps) true d .R (capRo ρ (.int j) caps) elt (f j)) (hf : ∀ j, j < n → t j = true → (f j).atom = true)
    (hs : ∀ env x, foldedSetIterable iter env x = pure x := by intro _ _; rfl) : Ev S sc ns b d q ρ (.ListComp elt [⟨.Name x px, iter, ifs, 0⟩] scope pos) (.list (((List.range n).filter t).map f)) := by
  have key : ∀ p ∈ (List.range n).map (fun (i : Nat) => PV.int i), ∃ j, j < n ∧ p = .int (j : Int) := fun p hp => by
    obtain ⟨j, hj, rfl⟩ := List.mem_map.mp hp
    exact ⟨j, List.mem_range.mp hj, rfl⟩
  have := Ev.comp (q := q) (elt := elt) (px := px) (ifs := ifs) (pos := pos) (tst := onNat false t) (f := onNat .none f) caps ok hit (atoms_range n) (by simpa using hsz) (fun p hp => ?_) (fun p hp h => ?_) (fun p hp h => ?_) hs
  · rw [filt_map (fun (i : Nat) => PV.int i) (onNat false t) (onNat .none f) t f (fun a => by simp [onNat]) (fun a => by simp [onNat])] at this
    exact this
  · obtain ⟨j, hj, rfl⟩ := key p hp
    have := ht j hj
    simpa [onNat] using this
  · obtain ⟨j, hj, rfl⟩ := key p hp
    have := he j hj (by simpa [onNat] using h)
    simpa [onNat] using this
  · obtain ⟨j, hj, rfl⟩ := key p hp
    have := hf j hj (by simpa [onNat] using h)
    simpa [onNat] using this

theorem S1.assignCompR {elt iter : Expr} {x y : Str} {px py : Pos} {ifs : List Expr} {scope : Scope} {pos spos : Pos} {n : Nat} {t : Nat → Bool} {f : Nat → PV} {Φ : Out → Prop} (k : Own) (i : Nat) (hn : ns[i]? = some y) (caps : List Nat) (ok : CompOk sc ns scope x caps)
    (hit : It S sc ns b d ρ iter ((List.range n).map fun (i : Nat) => PV.int i)) (hsz : n ≤ sizeLine) (ht : ∀ j, j < n → TrC S scope (capNs ns x caps) true d (capRo ρ (.int j) caps) ifs (t j))
    (he : ∀ j, j < n → t j = true → Ev S scope (capNs ns x caps) true d .R (capRo ρ (.int j) caps) elt (f j)) (hf : ∀ j, j < n → t j = true → (f j).atom = true)
    (hΦ : Φ (.next (ρ.set i (some (.list (((List.range n).filter t).map f), k))))) (nd : ns.Nodup) (hk : sc.names.lookup y = some .local) (hl : (py.line == pos.line) = true := by rfl)
    (hv : (scope.names.any fun z => z.1 == y && (z.2 == .local || z.2 == .cell)) = false := by rfl)
    (hs : ∀ env x, foldedSetIterable iter env x = pure x := by intro _ _; rfl) :
    S1 S sc ns b d ρ (.Assign [.Name y py] (.ListComp elt [⟨.Name x px, iter, ifs, 0⟩] scope pos) spos) Φ := by
  have key : ∀ p ∈ (List.range n).map (fun (i : Nat) => PV.int i), ∃ j, j < n ∧ p = .int (j : Int) := fun p hp => by
    obtain ⟨j, hj, rfl⟩ := List.mem_map.mp hp
    exact ⟨j, List.mem_range.mp hj, rfl⟩
  refine S1.assignComp (tst := onNat false t) (f := onNat .none f) k i hn caps ok hit (atoms_range n) (by simpa using hsz) (fun p hp => ?_) (fun p hp h => ?_) (fun p hp h => ?_) ?_ nd hk hl hv hs
  · obtain ⟨j, hj, rfl⟩ := key p hp
    have := ht j hj
    simpa [onNat] using this
  · obtain ⟨j, hj, rfl⟩ := key p hp
    have := he j hj (by simpa [onNat] using h)
    simpa [onNat] using this
  · obtain ⟨j, hj, rfl⟩ := key p hp
    have := hf j hj (by simpa [onNat] using h)
    simpa [onNat] using this
  · rw [filt_map (fun (i : Nat) => PV.int i) (onNat false t) (onNat .none f) t f (fun a => by simp [onNat]) (fun a => by simp [onNat])]
    exact hΦ

theorem Ev.compI {elt iter : Expr} {x : Str} {px : Pos} {ifs : List Expr} {scope : Scope} {pos : Pos} {l : List Int} {t : Int → Bool} {f : Int → PV} (caps : List Nat) (ok : CompOk sc ns scope x caps) (hit : It S sc ns b d ρ iter (l.map .int))
    (hsz : l.length ≤ sizeLine) (ht : ∀ j, j ∈ l → TrC S scope (capNs ns x caps) true d (capRo ρ (.int j) caps) ifs (t j))
    (he : ∀ j, j ∈ l → t j = true → Ev S scope (capNs ns x caps) true d .R (capRo ρ (.int j) caps) elt (f j)) (hf : ∀ j, j ∈ l → t j = true → (f j).atom = true)
    (hs : ∀ env x, foldedSetIterable iter env x = pure x := by intro _ _; rfl) : Ev S sc ns b d q ρ (.ListComp elt [⟨.Name x px, iter, ifs, 0⟩] scope pos) (.list ((l.filter t).map f)) := by
  have key : ∀ p ∈ l.map PV.int, ∃ j, j ∈ l ∧ p = .int j := fun p hp => by
    obtain ⟨j, hj, rfl⟩ := List.mem_map.mp hp
    exact ⟨j, hj, rfl⟩
  have := Ev.comp (q := q) (elt := elt) (px := px) (ifs := ifs) (pos := pos) (tst := onInt false t) (f := onInt .none f) caps ok hit (atoms_ints l) (by simpa using hsz) (fun p hp => ?_) (fun p hp h => ?_) (fun p hp h => ?_) hs
  · rw [filt_map PV.int (onInt false t) (onInt .none f) t f (fun a => by simp [onInt]) (fun a => by simp [onInt])] at this
    exact this
  · obtain ⟨j, hj, rfl⟩ := key p hp; exact ht j hj
  · obtain ⟨j, hj, rfl⟩ := key p hp; exact he j hj h
  · obtain ⟨j, hj, rfl⟩ := key p hp; exact hf j hj h

theorem Ev.compS {elt iter : Expr} {x : Str} {px : Pos} {ifs : List Expr} {scope : Scope} {pos : Pos} {l : List Str} {t : Str → Bool} {f : Str → PV} (caps : List Nat) (ok : CompOk sc ns scope x caps) (hit : It S sc ns b d ρ iter (l.map .str))
    (hsz : l.length ≤ sizeLine) (ht : ∀ j, j ∈ l → TrC S scope (capNs ns x caps) true d (capRo ρ (.str j) caps) ifs (t j))
    (he : ∀ j, j ∈ l → t j = true → Ev S scope (capNs ns x caps) true d .R (capRo ρ (.str j) caps) elt (f j)) (hf : ∀ j, j ∈ l → t j = true → (f j).atom = true)
    (hs : ∀ env x, foldedSetIterable iter env x = pure x := by intro _ _; rfl) : Ev S sc ns b d q ρ (.ListComp elt [⟨.Name x px, iter, ifs, 0⟩] scope pos) (.list ((l.filter t).map f)) := by
  have key : ∀ p ∈ l.map PV.str, ∃ j, j ∈ l ∧ p = .str j := fun p hp => by
    obtain ⟨j, hj, rfl⟩ := List.mem_map.mp hp
    exact ⟨j, hj, rfl⟩
  have := Ev.comp (q := q) (elt := elt) (px := px) (ifs := ifs) (pos := pos) (tst := onStr false t) (f := onStr .none f) caps ok hit (atoms_strs l) (by simpa using hsz) (fun p hp => ?_) (fun p hp h => ?_) (fun p hp h => ?_) hs
  · rw [filt_map PV.str (onStr false t) (onStr .none f) t f (fun a => by simp [onStr]) (fun a => by simp [onStr])] at this
    exact this
  · obtain ⟨j, hj, rfl⟩ := key p hp; exact ht j hj
  · obtain ⟨j, hj, rfl⟩ := key p hp; exact he j hj h
  · obtain ⟨j, hj, rfl⟩ := key p hp; exact hf j hj h

theorem top_ok {k : Nat} {a : Addr} {fd : FuncData} {params rest : List Str} {ps : List PV} (W : S.Ok mg mb) (T : TopFn S mg k a fd) (h : Sx S (stScope (topAt k)) (params ++ rest) b d (ps.map (fun p => some (p, Own.imm)) ++ List.replicate rest.length none) (stBody (topAt k)) (fun o => o = .ret p))
    (hps : ps.length = params.length) (nd : (params ++ rest).Nodup) (hpk : params.all (locCell (stScope (topAt k))) = true) (hb : ∀ vs, vs.length = params.length → ∀ fd : FuncData, bindArgs { fd with params := stParams (topAt k), defaults := .none, kwdefaults := .none } ⟨vs, []⟩ = pure (params.zip vs))
    (hk : (stScope (topAt k)).kind = .function) (hco : (stScope (topAt k)).isCoroutine = false) (hgen : (stScope (topAt k)).isGenerator = false) : CallOk S b (d + 1) (.ref a) ps p := by
  obtain ⟨o, ho, hdata⟩ := T.ob
  refine fn_ok W ho hdata T.code T.body T.clo T.glob T.blt (by rw [T.scope]; exact hk) (by rw [T.scope]; exact hco) (by rw [T.scope]; exact hgen) (fun vs hv => bind_ok T.params T.dfl (hb vs hv)) hps (by rw [T.scope]; exact hpk) nd ?_
  rw [T.scope]; exact h

theorem numbers_ok {a : Addr} {fd : FuncData} {vs st : List Int} (W : S.Ok mg mb) (B : Bn mg) (T : TopFn S mg 18 a fd) (hv : vs.length < 2 ^ 20) (h0 : 0 < st.length) (hs : st.length < 2 ^ 20) : CallOk S b (d + 1) (.ref a) [.ints vs, .ints st] (.ints (numAfter vs st vs.length)) :=
  top_ok (params := ["script", "start"]) (rest := ["numbers", "k"]) W T (numbers_body W B hv h0 hs) rfl (by decide) (by decide) (vec2 fun _ _ fd => rfl) rfl rfl rfl
end
end Mine
open PySem PySem.Calls PyProof.Rows PySem.W
set_option Elab.async false
set_option autoImplicit false
set_option linter.unusedVariables false
namespace Mine
section
variable {S : Sys} {sc : Scope} {ns : List Str} {base : Heap} {env : Env} {s s' s0 : Shared} {ρ ρ' : Ro} {rt : Nat → Addr} {b : Bool} {d : Nat} {q : Md} {p p1 p2 p' : PV} {mg mb : Str → Option Value}

theorem Ev.cast {e : Expr} (h : Ev S sc ns b d q ρ e p) (h' : p = p') : Ev S sc ns b d q ρ e p' := h' ▸ h
theorem CallOk.to {fv : Value} {ps : List PV} (h : CallOk S b d fv ps p) (h' : p = p') : CallOk S b d fv ps p' := h' ▸ h
theorem Tr.cast {e : Expr} {t t' : Bool} (h : Tr S sc ns b d ρ e t) (h' : t = t') : Tr S sc ns b d ρ e t' := h' ▸ h

theorem o_pow2 {j : Nat} (hj : j ≤ 2 ^ 20) : Op2 S b d (binaryOp .Pow) (.int 2) (.int j) (.int (2 ^ j)) := by
  have h2 : Builtin.Int.intBits 2 = 2 := by decide
  exact (o_pow (by (first | lia | omega)) (by rw [h2]; (first | lia | omega))).to (by rw [Int.toNat_natCast])

theorem It.rangeN {e : Expr} {np pos : Pos} {n : Nat} {q1 : Md} (g : GName S sc "range" (.type "range")) (h : Ev S sc ns b d q1 ρ e (.int n)) (h2 : n < 2 ^ 62)
    (he : ∀ env, starEach [e] env = [(false, eval e env)] := by intro _; rfl) : It S sc ns b d ρ (.Call (.Name "range" np) [e] [] pos) ((List.range n).map fun (i : Nat) => PV.int i) := by
  have := It.range1 (np := np) (pos := pos) g h (by (first | lia | omega)) (by (first | lia | omega)) he
  rwa [Int.toNat_natCast] at this
end
end Mine
open PySem PySem.Calls PyProof.Rows PySem.W
set_option Elab.async false
set_option autoImplicit false
set_option linter.unusedVariables false
namespace Mine
section
variable {S : Sys} {sc : Scope} {ns : List Str} {base : Heap} {env : Env} {s s' s0 : Shared} {ρ ρ' : Ro} {rt : Nat → Addr} {b : Bool} {d : Nat} {q : Md} {p p1 p2 p' : PV} {mg mb : Str → Option Value}

noncomputable def redStep (l o : Int) : Int := min l (Builtin.bitXor l o)
noncomputable def redBy (basis : List Int) (x : Int) : Int := basis.foldl redStep x
theorem take_snoc {α : Type} {l : List α} {j : Nat} (h : j < l.length) : l.take (j + 1) = l.take j ++ [l[j]] := by
  rw [List.take_succ, List.getElem?_eq_getElem h]; rfl

theorem items_ints {l : List Int} {j : Nat} {p : PV} (h : (l.map PV.int)[j]? = some p) : ∃ hj : j < l.length, p = .int l[j] := by
  rw [List.getElem?_map] at h
  by_cases hj : j < l.length
  · rw [List.getElem?_eq_getElem hj] at h; cases h; exact ⟨hj, rfl⟩
  · rw [List.getElem?_eq_none (by (first | lia | omega))] at h; cases h
end
end Mine
open PySem PySem.Calls PyProof.Rows PySem.W
set_option Elab.async false
set_option autoImplicit false
set_option linter.unusedVariables false
namespace Mine
section
variable {S : Sys} {sc : Scope} {ns : List Str} {base : Heap} {env : Env} {s s' s0 : Shared} {ρ ρ' : Ro} {rt : Nat → Addr} {b : Bool} {d : Nat} {q : Md} {p p1 p2 p' : PV} {mg mb : Str → Option Value}

structure Quo (S : Sys) (mg : Str → Option Value) : Prop where
  re1 : ∃ a, mg "_twin_re_1" = some (.ref a) ∧ IsPat S.hT a c1
  re2 : ∃ a, mg "_twin_re_2" = some (.ref a) ∧ IsPat S.hT a c2
  crlf : ∃ t, mg "CRLF" = some (.str (Mine.S [13, 10]) t)

theorem quote_body {e : List Nat} {ls : List (List Nat)} (W : S.Ok mg mb) (U : Quo S mg) (he : isEnd e) (h0 : ls ≠ []) (hok : ∀ l ∈ ls, okLine l) (hn : ls.length < 2 ^ 20) (h1 : (glue e ls).length < 2 ^ 20) (h2 : (glue [13, 10] ls).length < 2 ^ 20) (h3 : (glue [13, 10] (ls.map dotted)).length < 2 ^ 20) :
    Sx S (stScope (topAt 16)) ["data"] b d [some (.str (Mine.S (glue e ls)), .imm)] (stBody (topAt 16)) (fun o => o = .ret (.str (Mine.S (glue [13, 10] (ls.map dotted))))) := by
  obtain ⟨a1, m1, q1⟩ := U.re1
  obtain ⟨a2, m2, q2⟩ := U.re2
  obtain ⟨t, mc⟩ := U.crlf
  obtain ⟨ps1, s1, f1, l1⟩ := norm_ok he ls [] h0 hok
  obtain ⟨ps2, s2, f2, l2⟩ := dots_ok ls [] [] h0 hok (.inl rfl) (by simp only [List.nil_append]; (first | lia | omega)) (fun i h1 h2 => by simp at h2)
  refine Sx.cons (S1.ret (Ev.patSub (q1 := .R) (x := Mine.S (glue [13, 10] ls)) (ps := ps2) W (.glob W rfl m1) q1 (Evs.cons Ev.cstr (Evs.cons (Ev.patSub (q1 := .R) (x := Mine.S (glue e ls)) (ps := ps1) W (.glob W rfl m2) q2 (Evs.cons (Ev.gconst (.glob W rfl mc) (fun h => .str _ _)) (Evs.cons (Ev.var 0 rfl rfl rfl) Evs.nil)) (by decide +kernel) (by simp [sizeLine]; (first | lia | omega)) s1 (by simp only [sizeLine]; (first | lia | omega)) f1 (by (first | lia | omega))) Evs.nil)) (by decide +kernel) (by simp [sizeLine]; (first | lia | omega)) s2 (by simp only [sizeLine]; (first | lia | omega)) f2 (by simp only [List.nil_append]; (first | lia | omega))) ?_)
  rfl

theorem quote_ok {a : Addr} {fd : FuncData} {e : List Nat} {ls : List (List Nat)} (W : S.Ok mg mb) (U : Quo S mg) (T : TopFn S mg 16 a fd) (he : isEnd e) (h0 : ls ≠ []) (hok : ∀ l ∈ ls, okLine l) (hn : ls.length < 2 ^ 20) (h1 : (glue e ls).length < 2 ^ 20) (h2 : (glue [13, 10] ls).length < 2 ^ 20) (h3 : (glue [13, 10] (ls.map dotted)).length < 2 ^ 20) :
    CallOk S b (d + 1) (.ref a) [.str (Mine.S (glue e ls))] (.str (Mine.S (glue [13, 10] (ls.map dotted)))) :=
  top_ok (params := ["data"]) (rest := []) W T (quote_body W U he h0 hok hn h1 h2 h3) rfl (by decide) (by decide) (vec1 fun _ fd => rfl) rfl rfl rfl

structure Flg (S : Sys) (mg : Str → Option Value) (fl : List (Int × Str)) : Prop where
  ex : ∃ a kvs, mg "COMPILER_FLAG_NAMES" = some (.ref a) ∧ a ∉ S.TB ∧ (a == sysModules) = false ∧ S.hT.DictOf (intKind S.prog S.w) a kvs ∧ ∀ k x, (k, x) ∈ fl → ∃ t, valueAt kvs k = some (.str x t)

theorem Ev.flagGet {np apos pos : Pos} {e1 e2 : Expr} {fl : List (Int × Str)} {k : Int} {x : Str} {pd : PV} {q1 : Md} (W : S.Ok mg mb) (U : Flg S mg fl) (hsc : sc.names.lookup ("COMPILER_FLAG_NAMES" : Str) = some .globalImplicit) (hk : (k, x) ∈ fl)
    (ha : Evs S sc ns b d q1 ρ [e1, e2] [.int k, pd])
    (hfew : ∀ env, ((backTo pos (starEach [e1, e2] env)).all (fun x => !x.1) && (backToKw pos (keywordEach [] env)).all (fun x => x.1.isSome)
      && decide ([e1, e2].length + ([] : List Keyword).length + (if ([] : List Keyword).isEmpty then 0 else 1) < 30)) = true := by intro _; rfl)
    (hline : (apos.endLine == pos.line) = true := by rfl)
    (he : ∀ env, starEach [e1, e2] env = (false, eval e1 env) :: starEach [e2] env := by intro _; rfl)
    (hp : ∀ env, (backTo pos (starEach [e1, e2] env)).any (·.1) = false := by intro _; rfl) :
    Ev S sc ns b d q ρ (.Call (.Attribute (.Name "COMPILER_FLAG_NAMES" np) "get" apos) [e1, e2] [] pos) (.str x) := by
  intro A base env s rt Q R F hQ
  obtain ⟨a, kvs, hm, hTB, hsys, hD, hv⟩ := U.ex
  obtain ⟨t, hv⟩ := hv k x hk
  have at' : ∀ {h : Heap}, Gd S h → h.DictOf (intKind S.prog S.w) a kvs := fun G => hD.at fun o e => G.top _ o hTB e
  refine wpAny_Call_method (T := "dict") (id := "dict.get") rfl (hfew env) hline PySem.F.plainAttrs_dict PySem.F.slot_dict_get PySem.F.type_dict_get (GName.eval (.glob W hsc hm) F ?_ (by decide))
  have hb : backTo pos (starEach [e1, e2] env) = (false, eval e1 env) :: backTo pos (starEach [e2] env) := by rw [he env]; rfl
  have g4 := at' F.gd
  refine ⟨g4.typeIs, fun a e => by cases e; exact g4.mapOf.noDict _ rfl, callWith_builtin (hp env) ?_⟩
  have := ha A base env s rt pos (fun vs s' => wpAny (model S.prog S.w) A (PySem.call (.builtin "dict.get") ([.ref a] ++ vs) []) Q No s') R F fun vs s2 fp k2 r2 _ => ?_
  · rw [hb] at this ⊢
    exact evalArgs_plain this
  · obtain ⟨v1, v2, f1, f2, rfl, rfl, t1, t2⟩ := r2.two
    cases t1
    have g4' := at' k2.gd
    refine call_meetsIn PySem.F.slot_dict_get g4'.typeIs PySem.F.entry_dict_get (PySem.F.args_dict_get_3 _ _ _) (meets_dict_get_default (intKind S.prog S.w) _ (intKind_is _ _ k _) hsys v2) ⟨_, g4'.mapOf, ?_⟩
    rw [hv]
    exact hQ _ { s2 with toks := s2.toks + 1 } [] (k2.toks _) (.str _ _) MdOk.nil
end
end Mine
open PySem PySem.Calls PyProof.Rows PySem.W
set_option Elab.async false
set_option autoImplicit false
set_option linter.unusedVariables false
set_option maxRecDepth 20000
namespace Mine
section
variable {S : Sys} {sc : Scope} {ns : List Str} {base : Heap} {env : Env} {s s' s0 : Shared} {ρ ρ' : Ro} {rt : Nat → Addr} {b : Bool} {d : Nat} {q : Md} {p p1 p2 p' : PV} {mg mb : Str → Option Value}

theorem Sx.absurd {st : List Stmt} {Φ : Out → Prop} {x : Str} {k : Own} (i : Nat) (hn : ns[i]? = some x) (hρ : ρ[i]? = some (some (.bot, k))) : Sx S sc ns b d ρ st Φ := by
  intro A base env s rt Q R F hQ
  obtain ⟨v, fp, V⟩ := F.vars i x _ _ hn hρ
  have := V.rp
  cases this

noncomputable def flagName : Nat → Str
  | 0 => "OPTIMIZED"
  | 1 => "NEWLOCALS"
  | 2 => "VARARGS"
  | 3 => "VARKEYWORDS"
  | _ => "NESTED"
noncomputable def flagTab : List (Int × Str) := [(1, "OPTIMIZED"), (2, "NEWLOCALS"), (4, "VARARGS"), (8, "VARKEYWORDS"), (16, "NESTED")]
noncomputable def hiBits (x i : Nat) : Nat := x / 2 ^ i * 2 ^ i
noncomputable def namesTo (x i : Nat) : List Str := ((List.range i).filter (x.testBit ·)).map flagName
noncomputable def pf (x : Nat) : Str := if x = 0 then "0x0" else Txt.join ", " (namesTo x (x.log2 + 1))

theorem fl_and : ∀ x, x < 32 → ∀ j, j < 5 → (Builtin.bitAnd (hiBits x j) (1 * 2 ^ j) != 0) = x.testBit j := by decide +kernel
theorem fl_xor : ∀ x, x < 32 → ∀ j, j < 5 → x.testBit j = true → Builtin.bitXor (hiBits x j) (1 * 2 ^ j) = hiBits x (j + 1) := by decide +kernel
theorem fl_same : ∀ x, x < 32 → ∀ j, j < 5 → x.testBit j = false → hiBits x (j + 1) = hiBits x j := by decide +kernel
theorem fl_top : ∀ x, x < 32 → x ≠ 0 → x.log2 < 5 ∧ x.testBit x.log2 = true := by decide +kernel
theorem fl_end : ∀ x, x < 32 → x ≠ 0 → ∀ j, j < 5 → j ≤ x.log2 → ((hiBits x (j + 1) : Int) != 0) = decide (j ≠ x.log2) := by decide +kernel
theorem fl_tab : ∀ j, j < 5 → ((1 * 2 ^ j : Int), flagName j) ∈ flagTab := by decide +kernel
theorem fl_hex : ∀ j, j < 5 → (baseText "0x" 16 (1 * 2 ^ j : Int)).length ≤ sizeLine := by decide +kernel
theorem fl_join : ∀ x, x < 32 → (((namesTo x (x.log2 + 1)).map (·.length)).sum + (namesTo x (x.log2 + 1)).length * (", " : Str).length) ≤ 16777216 := by decide +kernel
theorem names_succ (x j : Nat) : namesTo x (j + 1) = if x.testBit j then namesTo x j ++ [flagName j] else namesTo x j := by
  unfold namesTo
  rw [List.range_succ, List.filter_append]
  cases h : x.testBit j <;> simp [h]

theorem shl1 {j : Nat} (hj : j < 64) : Op2 S b d (binaryOp .LShift) (.int 1) (.int j) (.int (1 * 2 ^ j)) := by
  have h1 : Builtin.Int.intBits 1 = 1 := by decide
  exact (o_shl (by (first | lia | omega)) (by rw [h1]; (first | lia | omega))).to (by rw [Int.toNat_natCast])

theorem flag_ret {x : Nat} {ys : List Str} {y : Str} {r2 r3 r0 : Option (PV × Own)} (hj : ((ys.map (·.length)).sum + ys.length * (", " : Str).length) ≤ 16777216) (hy : Txt.join ", " ys = y) :
    Sx S (stScope (topAt 11)) ["flags", "names", "i", "flag"] b d [r0, some (.strs ys, .mut), r2, r3] ((stBody (topAt 11)).drop 2) (fun o => o = .ret (.str y)) := by
  refine Sx.cons (S1.ret (p := .str y) (Ev.meth (q0 := .R) (q1 := .R) (p1 := .str ", ") PySem.F.plainAttrs_str PySem.F.slot_str_join PySem.F.type_str_join Ev.cstr (fun s v fp r => by (first | obtain ⟨_, rfl, rfl⟩ := r.inv | cases r); exact ⟨rfl, fun a h => by cases h⟩) (Evs.cons (Ev.var 1 rfl rfl rfl) Evs.nil) ((c_join hj).to (congrArg PV.str hy))) rfl)

theorem flags_body {x : Nat} (W : S.Ok mg mb) (B : Bn mg) (U : Flg S mg flagTab) (hx : x < 32) :
    Sx S (stScope (topAt 11)) ["flags", "names", "i", "flag"] b d [some (.int x, .imm), none, none, none] (stBody (topAt 11)) (fun o => o = .ret (.str (pf x))) := by
  refine Sx.cons (S1.assignOwn (p := .list []) 1 rfl (Ev.list Evs.nil) rfl ?_ (by decide) (by decide))
  by_cases hx0 : x = 0
  · subst hx0
    refine Sx.cons (S1.for 2 rfl (It.rangeN (n := 32) (q1 := .R) (.blt W rfl B.range rfl (by decide)) Ev.cint (by decide)) (fun _ => [some (.int 0, .imm), some (.list [], .mut), none, none]) Le.refl ?_ ?_ (by decide) (by decide))
    · intro j p hj
      obtain ⟨hj', rfl⟩ := range_get hj
      refine Sx.cons (S1.assign (p := .int (1 * 2 ^ j)) 3 rfl (Ev.op2 (q1 := .R) (q2 := .R) Ev.cint (Ev.var 2 rfl rfl rfl) (shl1 (by (first | lia | omega)))) ?_ (by decide) (by decide))
      refine Sx.cons (S1.if (c := false) (Tr.cast (Tr.int (q1 := .R) (Ev.op2 (q1 := .R) (q2 := .R) (Ev.var 0 rfl rfl rfl) (Ev.var 3 rfl rfl rfl) o_and)) ?_) (fun hc => by cases hc) (fun _ => ?_))
      · have : (1 * 2 ^ j : Int) = ((2 ^ j : Nat) : Int) := by rw [Int.one_mul, Int.natCast_pow]; rfl
        rw [this, show (0 : Int) = ((0 : Nat) : Int) from rfl, bitAnd_nat]
        simp
      · refine Sx.nil (Sx.nil ?_)
        exact (Le.same (Le.same (Le.drop (Le.drop Le.nil))))
    · refine Sx.cons (S1.append (p := .str "0x0") 1 rfl rfl (Ev.call (q1 := .R) (.blt W rfl B.hex rfl (by decide)) (.blt _) (Evs.cons (Ev.var 0 rfl rfl rfl) Evs.nil) ((c_hex (x := 0) (by decide +kernel)).to (congrArg PV.str (by decide +kernel)))) rfl (by decide) ?_)
      refine Sx.nil ?_
      exact flag_ret (x := 0) (ys := ["0x0"]) (by decide +kernel) (by decide +kernel)
  · obtain ⟨ht1, ht2⟩ := fl_top x hx hx0
    have epf : Txt.join ", " (namesTo x (x.log2 + 1)) = pf x := by unfold pf; rw [if_neg hx0]
    refine Sx.cons (S1.for 2 rfl (It.rangeN (n := 32) (q1 := .R) (.blt W rfl B.range rfl (by decide)) Ev.cint (by decide))
      (fun j => if j ≤ x.log2 then [some (.int (hiBits x j), .imm), some (.strs (namesTo x j), .mut), none, none] else [some (.bot, .imm), none, none, none]) ?_ ?_ ?_ (by decide) (by decide))
    · show Le (if 0 ≤ x.log2 then _ else _) _
      rw [if_pos (Nat.zero_le _)]
      have : hiBits x 0 = x := by unfold hiBits; simp
      rw [this]
      exact Le.refl
    · intro j p hj
      obtain ⟨hj', rfl⟩ := range_get hj
      show Sx S _ _ b d ((if j ≤ x.log2 then _ else _ : Ro).set 2 _) _ _
      by_cases hjl : j ≤ x.log2
      · rw [if_pos hjl]
        have hj5 : j < 5 := by (first | lia | omega)
        have hnl : (namesTo x j).length ≤ j := by unfold namesTo; rw [List.length_map]; exact Nat.le_trans (List.length_filter_le _ _) (by simp)
        refine Sx.cons (S1.assign (p := .int (1 * 2 ^ j)) 3 rfl (Ev.op2 (q1 := .R) (q2 := .R) Ev.cint (Ev.var 2 rfl rfl rfl) (shl1 (by (first | lia | omega)))) ?_ (by decide) (by decide))
        refine Sx.cons (S1.if (Tr.int (q1 := .R) (Ev.op2 (q1 := .R) (q2 := .R) (Ev.var 0 rfl rfl rfl) (Ev.var 3 rfl rfl rfl) o_and)) (fun hc => ?_) (fun hc => ?_))
        · rw [fl_and x hx j hj5] at hc
          have en : namesTo x (j + 1) = namesTo x j ++ [flagName j] := by rw [names_succ, if_pos hc]
          refine Sx.cons (S1.append (p := .str (flagName j)) 1 rfl rfl (Ev.flagGet (q1 := .R) W U rfl (fl_tab j hj5) (Evs.cons (Ev.var 3 rfl rfl rfl) (Evs.cons (Ev.call (q1 := .R) (.blt W rfl B.hex rfl (by decide)) (.blt _) (Evs.cons (Ev.var 3 rfl rfl rfl) Evs.nil) (c_hex (fl_hex j hj5))) Evs.nil))) (flat_atoms (by rw [List.all_append, atoms_strs]; rfl)) (by simp only [List.length_map, sizeLine]; (first | lia | omega)) ?_)
          refine Sx.cons (S1.aug (q1 := .R) (p := .int (hiBits x (j + 1))) 0 rfl rfl (Ev.var 3 rfl rfl rfl) (i_xor.to (fl_xor x hx j hj5 hc)) ?_ (by decide) (by decide))
          refine Sx.cons (S1.if (Tr.not (Tr.int (q1 := .R) (Ev.var 0 rfl rfl rfl))) (fun hc2 => ?_) (fun hc2 => ?_))
          · rw [fl_end x hx hx0 j hj5 hjl] at hc2
            have hjm : j = x.log2 := by simpa using hc2
            refine Sx.cons (S1.break ?_)
            have es : PV.list ((namesTo x j).map .str ++ [.str (flagName j)]) = .strs (namesTo x (x.log2 + 1)) := by rw [← hjm, en]; simp [PV.strs]
            have fin := flag_ret (S := S) (b := b) (d := d) (x := x) (r0 := some (.int (hiBits x (j + 1)), .imm)) (r2 := some (.int j, .imm)) (r3 := some (.int (1 * 2 ^ j), .imm)) (fl_join x hx) epf
            rw [← es] at fin
            exact fin
          · rw [fl_end x hx hx0 j hj5 hjl] at hc2
            have hjm : j ≠ x.log2 := by simpa using hc2
            refine Sx.nil (Sx.nil (Sx.nil ?_))
            show Le (if j + 1 ≤ x.log2 then _ else _) _
            rw [if_pos (by (first | lia | omega)), en]
            have es : PV.strs (namesTo x j ++ [flagName j]) = .list ((namesTo x j).map .str ++ [.str (flagName j)]) := by simp [PV.strs]
            rw [es]
            exact (Le.same (Le.same (Le.drop (Le.drop Le.nil))))
        · rw [fl_and x hx j hj5] at hc
          have hjm : j ≠ x.log2 := fun e => by rw [e, ht2] at hc; cases hc
          refine Sx.nil (Sx.nil ?_)
          show Le (if j + 1 ≤ x.log2 then _ else _) _
          rw [if_pos (by (first | lia | omega)), names_succ, if_neg (by rw [hc]; decide), fl_same x hx j hj5 hc]
          exact (Le.same (Le.same (Le.drop (Le.drop Le.nil))))
      · rw [if_neg hjl]
        exact Sx.absurd 0 rfl rfl
    · show Sx S _ _ b d (if _ ≤ x.log2 then _ else _ : Ro) _ _
      rw [if_neg (by simp; (first | lia | omega))]
      exact Sx.absurd 0 rfl rfl

theorem flags_ok {a : Addr} {fd : FuncData} {x : Nat} (W : S.Ok mg mb) (B : Bn mg) (U : Flg S mg flagTab) (T : TopFn S mg 11 a fd) (hx : x < 32) : CallOk S b (d + 1) (.ref a) [.int x] (.str (pf x)) :=
  top_ok (params := ["flags"]) (rest := ["names", "i", "flag"]) W T (flags_body W B U hx) rfl (by decide) (by decide) (vec1 fun _ fd => rfl) rfl rfl rfl
end
end Mine
open PySem PySem.Calls PyProof.Rows PySem.W
set_option Elab.async false
set_option autoImplicit false
set_option linter.unusedVariables false
set_option maxRecDepth 20000
namespace Mine

noncomputable def qStep (n y : Nat) (st : List Nat × Nat) (dg : Nat) : List Nat × Nat := (st.1 ++ [(st.2 * 2 ^ n + dg) / y], (st.2 * 2 ^ n + dg) % y)
noncomputable def qRun (n y : Nat) (ds : List Nat) : List Nat × Nat := ds.foldl (qStep n y) ([], 0)
noncomputable def nsum (n : Nat) : List Nat → Nat
  | [] => 0
  | d :: r => d + 2 ^ n * nsum n r
theorem nsum_dsum (n : Nat) : ∀ l : List Nat, ((nsum n l : Nat) : Int) = dsum n (l.map Int.ofNat)
  | [] => rfl
  | d :: r => by
    rw [nsum, List.map_cons, dsum, ← nsum_dsum n r]
    push_cast
    rfl
theorem qRun_ok (n y : Nat) (hy : 0 < y) : ∀ ds : List Nat, nsum n (qRun n y ds.reverse).1.reverse = nsum n ds / y ∧ (qRun n y ds.reverse).2 = nsum n ds % y
  | [] => by simp [qRun, nsum]
  | d :: ds => by
    obtain ⟨h1, h2⟩ := qRun_ok n y hy ds
    have e : qRun n y (d :: ds).reverse = qStep n y (qRun n y ds.reverse) d := by rw [List.reverse_cons]; simp [qRun, List.foldl_append]
    rw [e]
    unfold qStep
    simp only [List.reverse_append, List.reverse_cons, List.reverse_nil, List.nil_append, List.cons_append, nsum]
    rw [h1, h2]
    have key : d + 2 ^ n * nsum n ds = y * (2 ^ n * (nsum n ds / y)) + (nsum n ds % y * 2 ^ n + d) := by
      have := Nat.div_add_mod (nsum n ds) y
      have e2 : 2 ^ n * nsum n ds = 2 ^ n * (y * (nsum n ds / y) + nsum n ds % y) := by rw [this]
      rw [e2, Nat.mul_add, ← Nat.mul_assoc, Nat.mul_comm (2 ^ n) y, Nat.mul_assoc, Nat.mul_comm (2 ^ n) (nsum n ds % y)]
      (first | lia | omega)
    rw [key]
    constructor
    · rw [Nat.mul_add_div hy]; (first | lia | omega)
    · rw [Nat.mul_add_mod]

section
variable {S : Sys} {sc : Scope} {ns : List Str} {base : Heap} {env : Env} {s s' s0 : Shared} {ρ ρ' : Ro} {rt : Nat → Addr} {b : Bool} {d : Nat} {q : Md} {p p1 p2 p' : PV} {mg mb : Str → Option Value}

theorem div2_body {x y n : Nat} {t : Tok} (W : S.Ok mg mb) (B : Bn mg) (hlim : mg "_DIV_LIMIT" = some (.int 4000 t)) (hy : 0 < y) (hyl : y < 2 ^ 4000) (hx : nbits x ≤ n + 4000) :
    Sx S (stScope (topAt 3)) ["a", "b", "n"] b d [some (.int x, .imm), some (.int y, .imm), some (.int n, .imm)] (stBody (topAt 3)) (fun o => o = .ret (.tup [.int ((x / y : Nat) : Int), .int ((x % y : Nat) : Int)])) := by
  have hl2 : (y : Int).natAbs.log2 < 9000 := by
    rw [Int.natAbs_natCast]
    exact Nat.lt_trans ((Nat.log2_lt (by (first | lia | omega))).mpr hyl) (by decide)
  refine Sx.cons (S1.if (c := true) (Tr.cast (Tr.cmp (q1 := .R) (q2 := .R) (Ev.op2 (q1 := .R) (q2 := .R) (Ev.meth0 (q0 := .R) (p1 := .int x) PySem.F.plainAttrs_int PySem.F.slot_int_bit_length PySem.F.type_int_bit_length (Ev.var 0 rfl rfl rfl) (fun s v fp r => by (first | obtain ⟨_, rfl, rfl⟩ := r.inv | cases r); exact ⟨rfl, fun a h => by cases h⟩) c_bits) (Ev.var 2 rfl rfl rfl) o_sub) (Ev.gconst (.glob W rfl hlim) (fun h => .int _ _)) o_le) ?_) (fun _ => ?_) (fun hc => by cases hc))
  · have h1 : ((Builtin.Int.intBits (x : Int) : Nat) : Int) - n ≤ 4000 := by unfold nbits at hx; (first | lia | omega)
    exact decide_eq_true h1
  · refine Sx.cons (S1.ret (Ev.call (q1 := .R) (.blt W rfl B.divmod rfl (by decide)) (.blt _) (Evs.cons (Ev.var 0 rfl rfl rfl) (Evs.cons (Ev.var 1 rfl rfl rfl) Evs.nil)) ((c_divmod (by (first | lia | omega)) hl2).to ?_)) rfl)
    rw [fmod_nat, Int.fdiv_eq_ediv_of_nonneg _ (by (first | lia | omega))]
    rfl
theorem div2_ok {a : Addr} {fd : FuncData} {x y n : Nat} {t : Tok} (W : S.Ok mg mb) (B : Bn mg) (T : TopFn S mg 3 a fd) (hlim : mg "_DIV_LIMIT" = some (.int 4000 t)) (hy : 0 < y) (hyl : y < 2 ^ 4000) (hx : nbits x ≤ n + 4000) :
    CallOk S b (d + 1) (.ref a) [.int x, .int y, .int n] (.tup [.int ((x / y : Nat) : Int), .int ((x % y : Nat) : Int)]) :=
  top_ok (params := ["a", "b", "n"]) (rest := []) W T (div2_body W B hlim hy hyl hx) rfl (by decide) (by decide) (vec3 fun _ _ _ fd => rfl) rfl rfl rfl
end
end Mine
open PySem PySem.Calls PyProof.Rows PySem.W
set_option Elab.async false
set_option autoImplicit false
set_option linter.unusedVariables false
set_option maxRecDepth 20000
namespace Mine

noncomputable def digsN (n : Nat) : Nat → Nat → List Nat
  | 0, _ => []
  | 1, x => [x]
  | k + 2, x => x % 2 ^ n :: digsN n (k + 1) (x / 2 ^ n)
theorem digs_map (n : Nat) : ∀ k x, digs n k x = (digsN n k x).map Int.ofNat
  | 0, _ => rfl
  | 1, _ => rfl
  | k + 2, x => by rw [digs, digsN, List.map_cons, digs_map n (k + 1)]; rfl
theorem nsum_digs (n : Nat) : ∀ k x, nsum n (digsN n (k + 1) x) = x
  | 0, x => by simp [digsN, nsum]
  | k + 1, x => by
    rw [digsN, nsum, nsum_digs n k]
    exact Nat.mod_add_div x (2 ^ n)
theorem digsN_lt (n : Nat) : ∀ k x, x < 2 ^ (n * (k + 1)) → ∀ d ∈ digsN n (k + 1) x, d < 2 ^ n
  | 0, x, hx, d, hd => by
    simp [digsN] at hd
    subst hd
    simpa using hx
  | k + 1, x, hx, d, hd => by
    rw [digsN] at hd
    rcases List.mem_cons.mp hd with rfl | hd
    · exact Nat.mod_lt _ (Nat.two_pow_pos n)
    · refine digsN_lt n k _ ?_ d hd
      rw [Nat.div_lt_iff_lt_mul (Nat.two_pow_pos n), ← Nat.pow_add]
      have : n * (k + 1) + n = n * (k + 1 + 1) := by rw [Nat.mul_add n (k + 1) 1]; (first | lia | omega)
      rw [this]; exact hx
theorem nsum_lt (n : Nat) : ∀ l : List Nat, (∀ d ∈ l, d < 2 ^ n) → nsum n l < 2 ^ (n * l.length)
  | [], _ => by simp [nsum]
  | d :: l, h => by
    have h1 := h d (.head _)
    have h2 := nsum_lt n l fun x hx => h x (.tail _ hx)
    rw [nsum, List.length_cons, show n * (l.length + 1) = n + n * l.length by rw [Nat.mul_add]; (first | lia | omega), Nat.pow_add]
    have : 2 ^ n * (nsum n l + 1) ≤ 2 ^ n * 2 ^ (n * l.length) := Nat.mul_le_mul_left _ h2
    rw [Nat.mul_add, Nat.mul_one] at this
    (first | lia | omega)

theorem lt_bits (x : Nat) : x < 2 ^ nbits x := by
  unfold nbits Builtin.Int.intBits
  by_cases h : x = 0
  · subst h; decide
  · rw [if_neg (by simpa using h), Int.natAbs_natCast]
    exact Nat.lt_log2_self
theorem len_ge {n x : Nat} (hn : 0 < n) : nbits x ≤ n * i2dLen n x := by
  unfold i2dLen
  have := Nat.div_add_mod (nbits x + n - 1) n
  have := Nat.mod_lt (nbits x + n - 1) hn
  (first | lia | omega)

theorem fit_nat {l : List Nat} {n : Nat} (h : ∀ d ∈ l, d < 2 ^ n) (hl : l.length < 2 ^ 12) (hn : n < 2 ^ 13) : DFit (l.map Int.ofNat) n := by
  refine ⟨by rw [List.length_map]; (first | lia | omega), by (first | lia | omega), fun a r k h1 h2 h3 => ?_⟩
  rw [List.length_map] at h2 h3
  have e : sub (l.map Int.ofNat) a r = ((l.drop a).take (r - a)).map Int.ofNat := by unfold sub; rw [List.map_take, List.map_drop]
  rw [e, ← nsum_dsum]
  have hlt := nsum_lt n ((l.drop a).take (r - a)) fun d hd => h d (List.mem_of_mem_drop (List.mem_of_mem_take hd))
  have hb := bits_lt hlt
  have hlen : ((l.drop a).take (r - a)).length ≤ l.length := by simp; (first | lia | omega)
  have h5 : n * ((l.drop a).take (r - a)).length ≤ 2 ^ 13 * 2 ^ 12 := Nat.mul_le_mul (by (first | lia | omega)) (by (first | lia | omega))
  have h6 : k * n ≤ 2 ^ 12 * 2 ^ 13 := Nat.mul_le_mul (by (first | lia | omega)) (by (first | lia | omega))
  have h7 : ((k : Int) * n) = ((k * n : Nat) : Int) := by rw [Int.natCast_mul]
  rw [h7]
  (first | lia | omega)

theorem qRun_lt (n y : Nat) (hy : 0 < y) : ∀ (ds : List Nat) (st : List Nat × Nat), (∀ d ∈ ds, d < 2 ^ n) → st.2 < y → (∀ d ∈ st.1, d < 2 ^ n) → (ds.foldl (qStep n y) st).2 < y ∧ (∀ d ∈ (ds.foldl (qStep n y) st).1, d < 2 ^ n) ∧ (ds.foldl (qStep n y) st).1.length = st.1.length + ds.length
  | [], st, _, h1, h2 => ⟨h1, h2, by simp⟩
  | d :: ds, st, hd, h1, h2 => by
    have hq : (st.2 * 2 ^ n + d) / y < 2 ^ n := by
      rw [Nat.div_lt_iff_lt_mul hy]
      have : (st.2 + 1) * 2 ^ n ≤ y * 2 ^ n := Nat.mul_le_mul_right _ h1
      have := hd d (.head _)
      rw [Nat.add_mul, Nat.one_mul] at *
      rw [Nat.mul_comm (2 ^ n) y]
      (first | lia | omega)
    obtain ⟨a, c, e⟩ := qRun_lt n y hy ds (qStep n y st d) (fun x hx => hd x (.tail _ hx)) (Nat.mod_lt _ hy) (fun x hx => by
      unfold qStep at hx
      rcases List.mem_append.mp hx with hx | hx
      · exact h2 x hx
      · simp at hx; rw [hx]; exact hq)
    refine ⟨a, c, e.trans ?_⟩
    unfold qStep; simp; (first | lia | omega)
end Mine
open PySem PySem.Calls PyProof.Rows PySem.W
set_option Elab.async false
set_option autoImplicit false
set_option linter.unusedVariables false
set_option maxRecDepth 20000
namespace Mine
section
variable {S : Sys} {sc : Scope} {ns : List Str} {base : Heap} {env : Env} {s s' s0 : Shared} {ρ ρ' : Ro} {rt : Nat → Addr} {b : Bool} {d : Nat} {q : Md} {p p1 p2 p' : PV} {mg mb : Str → Option Value}

theorem TopFn.callee {k : Nat} {a : Addr} {fd : FuncData} (W : S.Ok mg mb) (T : TopFn S mg k a fd) : Callee S (.ref a) := by
  obtain ⟨o, ho, hd⟩ := T.ob
  refine .fn ho (fun hm => ?_) hd
  obtain ⟨x, e⟩ := tb_data W.gdT.tab hm
  rw [ho] at e; cases e; cases hd

theorem dpos_body {x y : Nat} {aI aD aV : Addr} {fI fD fV : FuncData} (W : S.Ok mg mb) (B : Bn mg) (TI : TopFn S mg 5 aI fI) (TD : TopFn S mg 6 aD fD) (TV : TopFn S mg 3 aV fV) (mI : mg "_int2digits" = some (.ref aI)) (mD : mg "_digits2int" = some (.ref aD)) (mV : mg "_div2n1n" = some (.ref aV))
    (hy : 0 < y) (hyl : nbits y ≤ 4000) (hlen : i2dLen (nbits y) x < 2 ^ 12)
    (hI : CallOk S false d (.ref aI) [.int x, .int (nbits y)] (.ints (i2d (nbits y) x)))
    (hD : ∀ l : List Nat, (∀ z ∈ l, z < 2 ^ nbits y) → l.length = i2dLen (nbits y) x → CallOk S false d (.ref aD) [.ints (l.map Int.ofNat), .int (nbits y)] (.int (dsum (nbits y) (l.map Int.ofNat))))
    (hV : ∀ c, nbits c ≤ nbits y + 4000 → CallOk S false d (.ref aV) [.int c, .int y, .int (nbits y)] (.tup [.int ((c / y : Nat) : Int), .int ((c % y : Nat) : Int)])) :
    Sx S (stScope (topAt 7)) ["a", "b", "n", "a_digits", "r", "q_digits", "a_digit", "q_digit", "q"] false d [some (.int x, .imm), some (.int y, .imm), none, none, none, none, none, none, none] (stBody (topAt 7)) (fun o => o = .ret (.tup [.int ((x / y : Nat) : Int), .int ((x % y : Nat) : Int)])) := by
  obtain ⟨n, hn⟩ : ∃ n, n = nbits y := ⟨_, rfl⟩
  rw [← hn] at hyl hlen hI hD hV
  have hyn : y < 2 ^ n := hn ▸ lt_bits y
  have hn0 : 0 < n := by
    rcases Nat.eq_zero_or_pos n with h | h
    · rw [h] at hyn; (first | lia | omega)
    · exact h
  obtain ⟨ds, hds⟩ : ∃ ds, ds = digsN n (i2dLen n x) x := ⟨_, rfl⟩
  have ei : i2d n x = ds.map Int.ofNat := by unfold i2d; rw [digs_map, hds]
  have hdl : ds.length = i2dLen n x := by rw [← List.length_map (f := Int.ofNat), ← ei]; exact digs_len n _ _
  have hdlt : ∀ z ∈ ds, z < 2 ^ n := fun z hz => by
    rw [hds] at hz
    cases hk : i2dLen n x with
    | zero => rw [hk] at hz; cases hz
    | succ k =>
      rw [hk] at hz
      refine digsN_lt n k x ?_ z hz
      rw [← hk]
      exact Nat.lt_of_lt_of_le (lt_bits x) (Nat.pow_le_pow_right (by decide) (len_ge hn0))
  have hdsum : nsum n ds = x := by
    rw [hds]
    cases hk : i2dLen n x with
    | zero =>
      have h1 := len_ge (x := x) hn0
      rw [hk, Nat.mul_zero] at h1
      have h2 := lt_bits x
      rw [Nat.le_zero.mp h1] at h2
      simp [digsN, nsum]; (first | lia | omega)
    | succ k => exact nsum_digs n k x
  rw [ei] at hI
  refine Sx.cons (S1.assign (p := .int n) 2 rfl (Ev.meth0 (q0 := .R) (p1 := .int y) PySem.F.plainAttrs_int PySem.F.slot_int_bit_length PySem.F.type_int_bit_length (Ev.var 1 rfl rfl rfl) (fun s v fp r => by (first | obtain ⟨_, rfl, rfl⟩ := r.inv | cases r); exact ⟨rfl, fun a h => by cases h⟩) (c_bits.to (by rw [hn]; rfl))) ?_ (by decide) (by decide))
  refine Sx.cons (S1.assign (p := .ints (ds.map Int.ofNat)) 3 rfl (Ev.call (q1 := .R) (.glob W rfl mI) (TI.callee W) (Evs.cons (Ev.var 0 rfl rfl rfl) (Evs.cons (Ev.var 2 rfl rfl rfl) Evs.nil)) hI) ?_ (by decide) (by decide))
  refine Sx.cons (S1.assign (p := .int 0) 4 rfl Ev.cint ?_ (by decide) (by decide))
  refine Sx.cons (S1.assignOwn (p := .list []) 5 rfl (Ev.list Evs.nil) rfl ?_ (by decide) (by decide))
  have qr := fun j => qRun_lt n y hy (ds.reverse.take j) ([], 0) (fun z hz => hdlt z (by simpa using List.mem_of_mem_take hz)) hy (fun z hz => by cases hz)
  refine Sx.cons (S1.for 6 rfl (It.reversed (.blt W rfl B.reversed rfl (by decide)) (Ev.var 3 rfl rfl rfl) (atoms_ints _))
    (fun j => [some (.int x, .imm), some (.int y, .imm), some (.int n, .imm), some (.ints (ds.map Int.ofNat), .imm), some (.int ((qRun n y (ds.reverse.take j)).2 : Nat), .imm), some (.ints ((qRun n y (ds.reverse.take j)).1.map Int.ofNat), .mut), none, none, none]) Le.refl ?_ ?_ (by decide) (by decide))
  · intro j p hj
    have hj1 : (((ds.reverse).map Int.ofNat).map PV.int)[j]? = some p := by rw [← hj]; simp [List.map_reverse]
    obtain ⟨hj2, rfl⟩ := items_ints hj1
    have hj3 : j < ds.reverse.length := by simpa using hj2
    obtain ⟨dg, hdg⟩ : ∃ dg, dg = ds.reverse[j] := ⟨_, rfl⟩
    have e1 : ((ds.reverse).map Int.ofNat)[j] = (dg : Int) := by rw [hdg]; simp
    rw [e1]
    obtain ⟨st, hst⟩ : ∃ st, st = qRun n y (ds.reverse.take j) := ⟨_, rfl⟩
    have hnext : qRun n y (ds.reverse.take (j + 1)) = qStep n y st dg := by rw [take_snoc hj3, hst, hdg]; simp only [qRun, List.foldl_append, List.foldl_cons, List.foldl_nil]
    obtain ⟨q1, q2, q3⟩ := qr j
    have q1' : st.2 < y := by rw [hst]; exact q1
    have q3' : st.1.length ≤ j := by rw [hst]; have := q3; simp at this; unfold qRun; (first | lia | omega)
    have hdg2 : dg < 2 ^ n := hdlt dg (by rw [hdg]; simpa using List.getElem_mem hj3)
    simp only [← hst]
    have hcur : st.2 * 2 ^ n + dg < 2 ^ (n + n) := by
      rw [Nat.pow_add]
      have : (st.2 + 1) * 2 ^ n ≤ 2 ^ n * 2 ^ n := Nat.mul_le_mul_right _ (by (first | lia | omega))
      rw [Nat.add_mul, Nat.one_mul] at this
      (first | lia | omega)
    have hbc : nbits (st.2 * 2 ^ n + dg) ≤ n + 4000 := by have := bits_lt hcur; unfold nbits; (first | lia | omega)
    have ec : ((st.2 : Nat) : Int) * 2 ^ ((n : Nat) : Int).toNat + (dg : Int) = ((st.2 * 2 ^ n + dg : Nat) : Int) := by rw [Int.toNat_natCast]; push_cast; rfl
    have hbr : (Builtin.Int.intBits ((st.2 : Nat) : Int) : Int) + (n : Int) ≤ 2 ^ 27 := by
      have := bits_lt (Nat.lt_trans q1' hyn); (first | lia | omega)
    refine Sx.cons (S1.unpack2 (q1 := .R) (p1 := .int (((st.2 * 2 ^ n + dg) / y : Nat) : Int)) (p2 := .int (((st.2 * 2 ^ n + dg) % y : Nat) : Int)) 7 4 rfl rfl (Ev.call (q1 := .R) (.glob W rfl mV) (TV.callee W) (Evs.cons (Ev.op2 (q1 := .R) (q2 := .R) (Ev.op2 (q1 := .R) (q2 := .R) (Ev.var 4 rfl rfl rfl) (Ev.var 2 rfl rfl rfl) (o_shl (by (first | lia | omega)) hbr)) (Ev.var 6 rfl rfl rfl) (o_add.to ec)) (Evs.cons (Ev.var 1 rfl rfl rfl) (Evs.cons (Ev.var 2 rfl rfl rfl) Evs.nil))) (hV _ hbc)) rfl rfl ?_ (by decide) (by decide) (by decide))
    refine Sx.cons (S1.append (p := .int (((st.2 * 2 ^ n + dg) / y : Nat) : Int)) 5 rfl rfl (Ev.var 7 rfl rfl rfl) (flat_atoms (by rw [List.all_append, atoms_ints]; rfl)) (by simp only [List.length_map, sizeLine]; have := hdl; simp at hj3; (first | lia | omega)) ?_)
    refine Sx.nil ?_
    show Le [some (.int x, .imm), some (.int y, .imm), some (.int n, .imm), some (.ints (ds.map Int.ofNat), .imm), some (.int ((qRun n y (ds.reverse.take (j + 1))).2 : Nat), .imm), some (.ints ((qRun n y (ds.reverse.take (j + 1))).1.map Int.ofNat), .mut), none, none, none] _
    rw [hnext]
    have e3 : PV.ints ((qStep n y st dg).1.map Int.ofNat) = .list ((st.1.map Int.ofNat).map .int ++ [.int (((st.2 * 2 ^ n + dg) / y : Nat) : Int)]) := by unfold qStep; simp [PV.ints]
    rw [e3]
    exact (Le.same (Le.same (Le.same (Le.same (Le.same (Le.same (Le.drop (Le.drop (Le.drop Le.nil)))))))))
  · refine Sx.nil ?_
    have el : ((ds.map Int.ofNat).map PV.int).reverse.length = ds.reverse.length := by simp
    obtain ⟨st, hst⟩ : ∃ st, st = qRun n y ds.reverse := ⟨_, rfl⟩
    show Sx S _ _ false d [some (.int x, .imm), some (.int y, .imm), some (.int n, .imm), some (.ints (ds.map Int.ofNat), .imm), some (.int ((qRun n y (ds.reverse.take ((ds.map Int.ofNat).map PV.int).reverse.length)).2 : Nat), .imm), some (.ints ((qRun n y (ds.reverse.take ((ds.map Int.ofNat).map PV.int).reverse.length)).1.map Int.ofNat), .mut), none, none, none] _ _
    rw [el, List.take_length, ← hst]
    obtain ⟨r1, r2⟩ := qRun_ok n y hy ds
    rw [← hst, hdsum] at r1 r2
    obtain ⟨q1, q2, q3⟩ := qRun_lt n y hy ds.reverse ([], 0) (fun z hz => hdlt z (by simpa using hz)) hy (fun z hz => by cases hz)
    have hst' : ds.reverse.foldl (qStep n y) ([], 0) = st := hst.symm
    rw [hst'] at q1 q2 q3
    have q3' : st.1.length = i2dLen n x := by simp at q3; (first | lia | omega)
    refine Sx.cons (S1.reverse 5 rfl rfl (atoms_ints _) (by simp only [List.length_map, sizeLine]; (first | lia | omega)) ?_)
    have er : PV.list ((st.1.map Int.ofNat).map PV.int).reverse = .ints (st.1.reverse.map Int.ofNat) := by simp [PV.ints, List.map_reverse]
    rw [er]
    refine Sx.cons (S1.assign (p := .int ((x / y : Nat) : Int)) 8 rfl (Ev.call (q1 := .R) (.glob W rfl mD) (TD.callee W) (Evs.cons (Ev.var 5 rfl rfl rfl) (Evs.cons (Ev.var 2 rfl rfl rfl) Evs.nil)) ((hD st.1.reverse (fun z hz => q2 z (by simpa using hz)) (by simpa using q3')).to (by rw [← nsum_dsum, r1]))) ?_ (by decide) (by decide))
    refine Sx.cons (S1.ret (Ev.tup (Evs.cons (Ev.var 8 rfl rfl rfl) (Evs.cons (Ev.var 4 rfl rfl rfl) Evs.nil)) (by show 2 ≤ sizeLine; decide)) ?_)
    show Out.ret _ = Out.ret _
    rw [r2]
end
end Mine
open PySem PySem.Calls PyProof.Rows PySem.W
set_option Elab.async false
set_option autoImplicit false
set_option linter.unusedVariables false
set_option maxRecDepth 20000
namespace Mine
section
variable {S : Sys} {sc : Scope} {ns : List Str} {base : Heap} {env : Env} {s s' s0 : Shared} {ρ ρ' : Ro} {rt : Nat → Addr} {b : Bool} {d : Nat} {q : Md} {p p1 p2 p' : PV} {mg mb : Str → Option Value}

theorem dpos_ok {a : Addr} {fd : FuncData} {x y : Nat} {aI aD aV : Addr} {fI fD fV : FuncData} (W : S.Ok mg mb) (B : Bn mg) (T : TopFn S mg 7 a fd) (TI : TopFn S mg 5 aI fI) (TD : TopFn S mg 6 aD fD) (TV : TopFn S mg 3 aV fV) (mI : mg "_int2digits" = some (.ref aI)) (mD : mg "_digits2int" = some (.ref aD)) (mV : mg "_div2n1n" = some (.ref aV))
    (hy : 0 < y) (hyl : nbits y ≤ 4000) (hlen : i2dLen (nbits y) x < 2 ^ 12)
    (hI : CallOk S false d (.ref aI) [.int x, .int (nbits y)] (.ints (i2d (nbits y) x)))
    (hD : ∀ l : List Nat, (∀ z ∈ l, z < 2 ^ nbits y) → l.length = i2dLen (nbits y) x → CallOk S false d (.ref aD) [.ints (l.map Int.ofNat), .int (nbits y)] (.int (dsum (nbits y) (l.map Int.ofNat))))
    (hV : ∀ c, nbits c ≤ nbits y + 4000 → CallOk S false d (.ref aV) [.int c, .int y, .int (nbits y)] (.tup [.int ((c / y : Nat) : Int), .int ((c % y : Nat) : Int)])) :
    CallOk S false (d + 1) (.ref a) [.int x, .int y] (.tup [.int ((x / y : Nat) : Int), .int ((x % y : Nat) : Int)]) :=
  top_ok (params := ["a", "b"]) (rest := ["n", "a_digits", "r", "q_digits", "a_digit", "q_digit", "q"]) W T (dpos_body W B TI TD TV mI mD mV hy hyl hlen hI hD hV) rfl (by decide) (by decide) (vec2 fun _ _ fd => rfl) rfl rfl rfl

theorem idiv_body {x y : Nat} {aP : Addr} {fP : FuncData} (W : S.Ok mg mb) (TP : TopFn S mg 7 aP fP) (mP : mg "_divmod_pos" = some (.ref aP)) (hy : 0 < y)
    (hP : CallOk S false d (.ref aP) [.int x, .int y] (.tup [.int ((x / y : Nat) : Int), .int ((x % y : Nat) : Int)])) :
    Sx S (stScope (topAt 8)) ["a", "b", "q", "r"] false d [some (.int x, .imm), some (.int y, .imm), none, none] (stBody (topAt 8)) (fun o => o = .ret (.tup [.int ((x / y : Nat) : Int), .int ((x % y : Nat) : Int)])) := by
  refine Sx.cons (S1.if (c := false) (Tr.cast (Tr.cmp (q1 := .R) (q2 := .R) (Ev.var 1 rfl rfl rfl) Ev.cint o_eq) ?_) (fun hc => by cases hc) (fun _ => ?_))
  · exact beq_eq_false_iff_ne.mpr (by (first | lia | omega))
  refine Sx.cons (S1.if (c := false) (Tr.cast (Tr.cmp (q1 := .R) (q2 := .R) (Ev.var 1 rfl rfl rfl) Ev.cint o_lt) ?_) (fun hc => by cases hc) (fun _ => ?_))
  · exact decide_eq_false (by (first | lia | omega))
  refine Sx.cons (S1.if (c := false) (Tr.cast (Tr.cmp (q1 := .R) (q2 := .R) (Ev.var 0 rfl rfl rfl) Ev.cint o_lt) ?_) (fun hc => by cases hc) (fun _ => ?_))
  · exact decide_eq_false (by (first | lia | omega))
  refine Sx.cons (S1.ret (Ev.call (q1 := .R) (.glob W rfl mP) (TP.callee W) (Evs.cons (Ev.var 0 rfl rfl rfl) (Evs.cons (Ev.var 1 rfl rfl rfl) Evs.nil)) hP) rfl)

theorem idiv_ok {a : Addr} {fd : FuncData} {x y : Nat} {aP : Addr} {fP : FuncData} (W : S.Ok mg mb) (T : TopFn S mg 8 a fd) (TP : TopFn S mg 7 aP fP) (mP : mg "_divmod_pos" = some (.ref aP)) (hy : 0 < y)
    (hP : CallOk S false d (.ref aP) [.int x, .int y] (.tup [.int ((x / y : Nat) : Int), .int ((x % y : Nat) : Int)])) :
    CallOk S false (d + 1) (.ref a) [.int x, .int y] (.tup [.int ((x / y : Nat) : Int), .int ((x % y : Nat) : Int)]) :=
  top_ok (params := ["a", "b"]) (rest := ["q", "r"]) W T (idiv_body W TP mP hy hP) rfl (by decide) (by decide) (vec2 fun _ _ fd => rfl) rfl rfl rfl

end
end Mine
open PySem PySem.Calls PyProof.Rows PySem.W
set_option Elab.async false
set_option autoImplicit false
set_option linter.unusedVariables false
namespace Mine

theorem hash_small : ∀ k : Nat, k < 32 → hashInt (k : Int) = (k : Int) := by decide +kernel

noncomputable def SetG (h : Heap) (a : Addr) (L : Bool) (ks : List Nat) : Prop :=
  ∃ o es ep t, h.get? a = some o ∧ o.ExactSet ∧ o.data = .set es ep t ∧ Good es t L ∧ (es.toList.map keyN).Perm ks

theorem SetG.at {h h' : Heap} {a : Addr} {L : Bool} {ks : List Nat} (x : SetG h a L ks) (k : ∀ o, h.get? a = some o → h'.get? a = some o) : SetG h' a L ks :=
  let ⟨o, es, ep, t, e, r⟩ := x; ⟨o, es, ep, t, k o e, r⟩

section
variable {prog : Program} {w : World} {A : Around} {E : Value → Shared → Prop} {s : Shared}

theorem ents_of {es : Array (Int × Value)} (he : ∀ e ∈ es.toList, EntOk e) : ElemsOf (intKind prog w) es.toList := fun e h => by
  obtain ⟨k, hk, e1, tk, e2⟩ := he e h
  refine ⟨⟨(k : Int), ?_, ?_⟩, ?_⟩
  · show Value.isInt _ _ = true
    rw [e2]; simp [Value.isInt]
  · rw [e1]; exact (hash_small k hk).symm
  · rw [e2]; rfl
theorem is_key {e : Int × Value} (he : EntOk e) (k : Nat) : (intKind prog w).is (k : Int) e.2 = decide (keyN e = k) := by
  obtain ⟨k', hk', e1, tk, e2⟩ := he
  show Value.isInt _ _ = _
  unfold keyN
  rw [e2, e1]
  show ((k' : Int) == (k : Int)) = decide (((k' : Int)).toNat = k)
  apply Bool.eq_iff_iff.mpr
  rw [beq_iff_eq, decide_eq_true_eq]
  (first | lia | omega)

theorem SetG.typeIs {a : Addr} {L : Bool} {ks : List Nat} (x : SetG s.heap a L ks) : s.TypeIs (.ref a) "set" :=
  let ⟨o, _, _, _, ho, hc, _⟩ := x; ⟨o, ho, hc.1⟩
theorem Good.small {es : Array (Int × Value)} {t : SetTable} {L : Bool} (G : Good es t L) : es.size < scanBound := by
  have := G.few
  have h : scanBound = 4096 := rfl
  (first | lia | omega)

theorem store_get {h : Heap} {a : Addr} {o : Obj} {es : Array (Int × Value)} {ep : Nat} {t : SetTable} (ho : h.get? a = some o) (hd : o.data = .set es ep t) (es' : Array (Int × Value)) (t' : SetTable) :
    (h.update a (Obj.putSet es' t')).get? a = some { o with data := .set es' (ep + 1) t' } := by
  have := Heap.get?_update_self (Obj.putSet es' t') ho (by rw [putSet_of es' t' hd]; rfl)
  rw [putSet_of es' t' hd] at this; exact this

theorem set_add {a : Addr} {L : Bool} {ks : List Nat} {k : Nat} {tk : Tok} {Q : Value → Shared → Prop} (hS : SetG s.heap a L ks) (hk : k < 32) (hn : ks.length < 10)
    (h : ∀ h', Heap.SameBut a s.heap h' → SetG h' a L (if k ∈ ks then ks else k :: ks) → Q .none { s with heap := h', toks := s.toks + 1 }) :
    wpAny (model prog w) A (call (.builtin "set.add") [.ref a, .int k tk]) Q E s := by
  have hT := hS.typeIs
  obtain ⟨o, es, ep, t, ho, hex, hd, G, hp⟩ := hS
  have hb := G.small
  have hel : ElemsOf (intKind prog w) es.toList := ents_of G.ents
  have hkey : (intKind prog w).is (k : Int) (.int k tk) = true := by simp [intKind, Value.isInt]
  have hlen : es.size = ks.length := by have := hp.length_eq; simpa using this
  refine wpAny_call_entry F.slot_set_add hT F.entry_set_add ?_ (F.args_set_add_2 _ _)
  unfold Builtin.«set.add» Builtin.Frozenset.oneOther
  simp only [List.isEmpty_nil, bind_assoc]
  unfold Builtin.Frozenset.addrOf setAdd
  refine wpAny_bind (wpAny_pure ?_)
  try dsimp only
  refine wpAny_bind (wpAny_pure ?_)
  try dsimp only
  refine wpAny_bind ?_
  refine wpAny_holding ?_
  refine wpAny_bind ((intKind prog w).pyHash hkey ?_)
  unfold setAddHashed setAddHashedIn
  refine wpAny_holding (wpAny_bind (wpAny_setState_of (s := { s with toks := s.toks + 1 }) ho hd G.fits ?_))
  dsimp only
  rw [byScan_of (by rfl) hb hel]
  simp only [↓reduceIte]
  unfold setAddByScan
  refine wpAny_bind ?_
  refine wpAny_bind (wpAny_rule ?_)
  refine wpAny_bind (wpAny_setScan_of (s := { s with toks := s.toks + 1 }) hkey ho hd G.fits hel ?_)
  have fin : ∀ {b : Bool} {s' : Shared}, Q .none s' → wpAny (model prog w) A.in1 (ret Value.none) (fun fin s' => ∃ r, fin = .done (.ret r) ∧ Q r s') E s' := fun hq => wpAny_pure ⟨_, rfl, hq⟩
  cases hr : List.findIdx? (fun e => (intKind prog w).is (k : Int) e.2) es.toList with
  | some j =>
    dsimp only
    obtain ⟨hj, hpj, _⟩ := List.findIdx?_eq_some_iff_getElem.mp hr
    have hm : k ∈ ks := by
      refine hp.mem_iff.mp (List.mem_map.mpr ⟨es.toList[j], List.getElem_mem hj, ?_⟩)
      rw [is_key (G.ents _ (List.getElem_mem hj))] at hpj
      exact of_decide_eq_true hpj
    refine wpAny_pure (wpAny_pure ?_)
    have := h s.heap (Heap.SameBut.refl a s.heap) ⟨o, es, ep, t, ho, hex, hd, G, by rw [if_pos hm]; exact hp⟩
    exact wpAny_pure ⟨_, rfl, this⟩
  | none =>
    dsimp only
    have hnm : k ∉ es.toList.map keyN := fun hm => by
      obtain ⟨e, he, e1⟩ := List.mem_map.mp hm
      have := List.findIdx?_eq_none_iff.mp hr e he
      rw [is_key (G.ents e he), e1] at this
      simp at this
    have hm : k ∉ ks := fun hm => hnm (hp.mem_iff.mpr hm)
    obtain ⟨es1, t1, hL, hperm, hpl, hcase⟩ := G.put (tk := tk) hk hnm (by (first | lia | omega))
    rw [show (intKind prog w).hash (k : Int) = (k : Int) from hash_small k hk, hL]
    dsimp only
    refine wpAny_bind (wpAny_pure ?_)
    have hkeys : (es1.toList.map keyN).Perm (k :: ks) := by
      have h1 := hperm.map keyN
      rw [Array.toList_push, List.map_append] at h1
      exact h1.trans ((List.perm_append_singleton _ _).trans (hp.cons k))
    have hsz1 : es1.size ≤ 10 := by
      have := hkeys.length_eq
      simp at this
      (first | lia | omega)
    have hz : es1.size ≤ sizeLine := by simp only [sizeLine]; (first | lia | omega)
    have key : ∀ {R : Bool → Shared → Prop}, (∀ h', Heap.SameBut a s.heap h' → SetG h' a L (k :: ks) → R true { s with heap := h', toks := s.toks + 1 }) →
        wpAny (model prog w) A.in1 (do
          storeSet a es1 t1
          if (!false && t1.tooFull) = true then do
              (match (relayAll t1 es1 (SetTable.grown es1.size)).2.2 with | true => rule "set.scan.the-table-gave-way" | false => pure ())
              storeSet a (relayAll t1 es1 (SetTable.grown es1.size)).1 (relayAll t1 es1 (SetTable.grown es1.size)).2.1
              pure (some true)
            else pure (some true)) (fun r s' => ∃ b, r = some b ∧ R b s') E { s with toks := s.toks + 1 } := fun hR => by
      refine wpAny_bind (wpAny_storeSet_of (s := { s with toks := s.toks + 1 }) ho hd ?_ hz)
      have ho1 := store_get ho hd es1 t1
      have hsb1 := Heap.SameBut.update s.heap a (Obj.putSet es1 t1)
      rcases hcase with ⟨hf, G1⟩ | ⟨hf, h5, G2⟩
      · rw [hf]
        simp only [Bool.not_false, Bool.and_false, Bool.false_eq_true, if_false]
        exact wpAny_pure ⟨_, rfl, hR _ hsb1 ⟨_, es1, ep + 1, t1, ho1, hex, rfl, G1, hkeys⟩⟩
      · rw [hf]
        simp only [Bool.not_false, Bool.and_self, if_true]
        have hperm2 := relayAll_perm t1 es1 (SetTable.grown es1.size)
        have gave : ∀ (b : Bool) {s₁ : Shared} {Q' : Unit → Shared → Prop}, Q' () s₁ → wpAny (model prog w) A.in1 (match b with | true => rule "set.scan.the-table-gave-way" | false => pure ()) Q' E s₁ :=
          fun b s₁ Q' hq => by cases b <;> first | exact wpAny_pure hq | exact wpAny_rule hq
        refine wpAny_bind (gave _ ?_)
        refine wpAny_bind (wpAny_storeSet_of (s := { s with heap := s.heap.update a (Obj.putSet es1 t1), toks := s.toks + 1 }) ho1 rfl ?_ ?_)
        · have ho2 := store_get ho1 rfl (relayAll t1 es1 (SetTable.grown es1.size)).1 (relayAll t1 es1 (SetTable.grown es1.size)).2.1
          exact wpAny_pure ⟨_, rfl, hR _ (hsb1.trans (Heap.SameBut.update _ a _)) ⟨_, _, ep + 1 + 1, _, ho2, hex, rfl, G2, (hperm2.map keyN).trans hkeys⟩⟩
        · have := hperm2.length_eq
          rw [Array.length_toList, Array.length_toList] at this
          rw [this]; exact hz
    rw [hpl]
    simp only [if_true]
    refine wpAny_bind ?_
    rw [hashByValue_scannable 8 (by rfl)]
    refine wpAny_pure ?_
    try simp only [if_true]
    refine wpAny_mono (key (R := fun b s' => Q .none s') fun h' hsb hS' => h h' hsb (by rw [if_neg hm]; exact hS')) (fun r s' hr => ?_) fun _ _ e => e
    obtain ⟨b, rfl, hq⟩ := hr
    dsimp only
    exact wpAny_pure (wpAny_pure ⟨_, rfl, hq⟩)
end
end Mine
open PySem PySem.Calls PyProof.Rows PySem.W
set_option Elab.async false
set_option autoImplicit false
set_option linter.unusedVariables false
namespace Mine
section
variable {prog : Program} {w : World} {A : Around} {E : Value → Shared → Prop} {R : Result → Shared → Prop} {s : Shared}

theorem compTurn_set {elt target iter : Expr} {scope : Scope} {pos : Pos} {it : Value} {D : Addr} {env : Env} :
    compTurn (.SetComp elt [⟨target, iter, [], 0⟩] scope pos) 0 it (.ref D) env = (do
      standAt iter.pos
      match ← pyNext it with
      | none => pure (.done .next)
      | some v => do
        letOwnedTupleGo target it v
        assign target env v
        (do let y ← eval elt env; standAt elt.pos; let _ ← PySem.call (.builtin "set.add") [.ref D, y])
        again (.compLoop (.SetComp elt [⟨target, iter, [], 0⟩] scope pos) 0 it (.ref D) env)) := by rfl

theorem compStart_set {elt target iter : Expr} {scope : Scope} {pos : Pos} {it acc : Value} {env : Env}
    (h0 : codeAny (model prog w) A (.compLoop (.SetComp elt [⟨target, iter, [], 0⟩] scope pos) 0 it acc env) R s)
    (h : wpAny (model prog w) A (pyIter it) (fun it' s' => codeAny (model prog w) A (.compLoop (.SetComp elt [⟨target, iter, [], 0⟩] scope pos) 0 it' acc env) R s') (notedBy (model prog w) A env fun x s' => R (.error x) s') s) :
    codeAny (model prog w) A (.compStart (.SetComp elt [⟨target, iter, [], 0⟩] scope pos) 0 it acc env) R s := by
  refine codeAny_of_tree ?_
  show wpAny _ A ((compStart (.SetComp elt [⟨target, iter, [], 0⟩] scope pos) 0 it acc env).onRaise (fun x => do noteFrame x env; standAt theWindowsPlace)) _ _ s
  refine wpAny_notedAt ?_
  unfold compStart
  show wpAny _ A (ask >>= _) _ _ s
  refine wpAny_bind (wpAny_askSetting (wpAny_ite ?_))
  split
  · first
      | exact wpAny_bind (wpAny_pure (wpAny_pure (And.intro rfl h0)))
      | exact wpAny_pure (And.intro rfl h0)
  · first
      | exact wpAny_bind (wpAny_rule (wpAny_bind (wpAny_standAt (wpAny_bind (wpAny_mono h (fun it' s' h' => wpAny_pure (And.intro rfl h')) fun _ _ x => x)))))
      | (refine wpAny_bind (wpAny_rule ?_); show wpAny _ _ (standAt iter.pos >>= _) _ _ s; exact wpAny_bind (wpAny_standAt (wpAny_bind (wpAny_mono h (fun it' s' h' => wpAny_pure (And.intro rfl h')) fun _ _ x => x))))

theorem compLoop_set {elt iter : Expr} {x : Str} {px : Pos} {scope : Scope} {pos : Pos} {I D : Addr} {fp wr : List Addr} {n : Nat} {P : Nat → Value → Prop} {St : Nat → Heap → Prop} {L : Bool}
    {cenv : Env} {m : Str → Option Value} (W : Walks prog w A I fp wr n P St) (F : Value → Value → Prop) (g : Nat → Nat)
    (hx : cenv.kindOf x = some .local) (hp : (cenv.scope.kind == .class || (cenv.scope.kind == .module && cenv.locals != cenv.globals)) = false)
    (hDC : D ≠ cenv.locals) (hDf : D ∉ fp) (hCf : cenv.locals ∉ fp)
    (hst : St 0 s.heap) (hacc : SetG s.heap D L []) (hn : s.heap.Ns cenv.locals m) (hn9 : n ≤ 9) (hg : ∀ i, i < n → g i < 32)
    (hF : ∀ i v y, i < n → P i v → F v y → ∃ t, y = .int (g i) t)
    (helt : ∀ i v s₂ m₂, P i v → s₂.heap.Ns cenv.locals m₂ → m₂ x = some v → (∀ b o, b ≠ cenv.locals → b ∉ wr → b ≠ D → s.heap.get? b = some o → s₂.heap.get? b = some o) → s.toks ≤ s₂.toks →
      wpAny (model prog w) A (eval elt cenv) (fun y s₃ => F v y ∧ Keeps s₂ s₃) (notedBy (model prog w) A cenv fun e s' => R (.error e) s') s₂)
    (hR : ∀ h' tk m' ks, h'.Ns cenv.locals m' → SetG h' D L ks → ks.Nodup → (∀ k, k ∈ ks ↔ ∃ i, i < n ∧ g i = k) →
      (∀ b o, b ≠ cenv.locals → b ∉ wr → b ≠ D → s.heap.get? b = some o → h'.get? b = some o) → R (.ok .next) { s with heap := h', toks := tk }) :
    codeAny (model prog w) A (.compLoop (.SetComp elt [⟨.Name x px, iter, [], 0⟩] scope pos) 0 (.ref I) (.ref D) cenv) R s := by
  refine codeAny_loop rfl (fun k s' => ∃ h' tk m' ks j, s' = { s with heap := h', toks := tk } ∧ St j h' ∧ SetG h' D L ks ∧ h'.Ns cenv.locals m' ∧ ks.Nodup ∧ (∀ k, k ∈ ks ↔ ∃ i, i < j ∧ g i = k) ∧ ks.length ≤ j ∧ j ≤ n ∧ k = n + 1 - j ∧
      (∀ b o, b ≠ cenv.locals → b ∉ wr → b ≠ D → s.heap.get? b = some o → h'.get? b = some o) ∧ s.toks ≤ tk) (fun k s' hI => ?_) (n + 1)
    ⟨s.heap, s.toks, m, [], 0, rfl, hst, hacc, hn, List.nodup_nil, fun k => ⟨fun h => by simp at h, fun ⟨i, h, _⟩ => by (first | lia | omega)⟩, Nat.le_refl _, Nat.zero_le _, rfl, fun _ _ _ _ _ e => e, Nat.le_refl _⟩
  obtain ⟨H, tk, m', ks, j, rfl, hst', hacc', hn', hnd, hmem, hlen, hj, rfl, hk, htk⟩ := hI
  have hCw : cenv.locals ∉ wr := fun h => hCf (W.sub _ h)
  have hDw : D ∉ wr := fun h => hDf (W.sub _ h)
  show wpAny _ A ((compTurn (.SetComp elt [⟨.Name x px, iter, [], 0⟩] scope pos) 0 (.ref I) (.ref D) cenv).onRaise (fun x => do noteFrame x cenv; theTreesLotGoes x)) _ _ _
  refine wpAny_noted ?_
  rw [compTurn_set]
  refine wpAny_bind (wpAny_standAt (wpAny_bind ?_))
  by_cases hlt : j < n
  · refine wpAny_with_toks (n := s.toks) htk (W.item j _ _ _ hlt hst' fun v h₁ tk₁ hPv hst₁ hk₁ htk₁ => ?_)
    refine wpAny_bind (wpAny_pure ?_)
    refine wpAny_bind (wpAny_assign_Name (wpAny_storeName_local hx (hn'.at' fun o e => hk₁ _ o hCw e) (fun h₂ hn₂ hs₂ => ?_) hp))
    have up₂ : ∀ b o, b ≠ cenv.locals → b ∉ wr → H.get? b = some o → h₂.get? b = some o := fun b o hbC hbf e => hs₂.extBut b o hbC (hk₁ b o hbf e)
    have hst₂ : St (j + 1) h₂ := W.frame _ _ _ hst₁ fun b hb o e => hs₂.extBut b o (fun h => hCf (h ▸ hb)) e
    refine wpAny_bind (wpAny_bind ?_)
    refine wpAny_mono (wpAny_toks_of (n := s.toks) (Nat.le_succ_of_le htk₁) (helt j v _ _ hPv hn₂ (by simp) (fun b o hbC hbf hbD e => up₂ b o hbC hbf (hk b o hbC hbf hbD e)) (Nat.le_succ_of_le htk₁))) (fun y s₃ h₃ => ?_) fun _ _ e => e.2
    obtain ⟨htk₃, hFy, h₃, tk₃, rfl, hk₃⟩ := h₃
    obtain ⟨ty, rfl⟩ := hF j v y hlt hPv hFy
    refine wpAny_bind (wpAny_standAt (wpAny_bind ?_))
    have hacc₃ : SetG h₃ D L ks := hacc'.at fun o e => hk₃ _ o (up₂ D o hDC hDw e)
    refine set_add hacc₃ (hg j hlt) (by (first | lia | omega)) fun h₄ hs₄ hS₄ => ?_
    refine wpAny_pure (wpAny_pure ⟨rfl, n + 1 - (j + 1), by (first | lia | omega), h₄, tk₃ + 1, _, _, j + 1, rfl, ?_, hS₄, (hn₂.keeps hk₃).sameBut hs₄ (Ne.symm hDC), ?_, ?_, ?_, by (first | lia | omega), rfl, fun b o hbC hbf hbD e => hs₄.extBut b o hbD (hk₃ b o (up₂ b o hbC hbf (hk b o hbC hbf hbD e))), Nat.le_succ_of_le htk₃⟩)
    · exact W.frame _ _ _ hst₂ fun b hb o e => hs₄.extBut b o (fun h => hDf (h ▸ hb)) (hk₃ b o e)
    · split
      · exact hnd
      · rename_i hm; exact List.nodup_cons.mpr ⟨hm, hnd⟩
    · intro k
      have e : (∃ i, i < j + 1 ∧ g i = k) ↔ (∃ i, i < j ∧ g i = k) ∨ g j = k := by
        constructor
        · rintro ⟨i, hi, e⟩
          by_cases h : i = j
          · subst h; exact .inr e
          · exact .inl ⟨i, by (first | lia | omega), e⟩
        · rintro (⟨i, hi, e⟩ | e)
          · exact ⟨i, by (first | lia | omega), e⟩
          · exact ⟨j, by (first | lia | omega), e⟩
      rw [e, ← hmem]
      split
      · rename_i hm
        constructor
        · exact .inl
        · rintro (h | h)
          · exact h
          · rw [← h]; exact hm
      · rw [List.mem_cons]
        constructor
        · rintro (h | h)
          · exact .inr h.symm
          · exact .inl h
        · rintro (h | h)
          · exact .inr h
          · exact .inl h.symm
    · split
      · (first | lia | omega)
      · simp; exact hlen
  · have hin : j = n := by (first | lia | omega)
    subst hin
    refine W.done _ _ _ hst' fun h₁ tk₁ hk₁ => ?_
    refine wpAny_pure ?_
    exact hR h₁ tk₁ m' ks (hn'.at' fun o e => hk₁ _ o hCw e) (hacc'.at fun o e => hk₁ _ o hDw e) hnd hmem fun b o hbC hbf hbD e => hk₁ b o hbf (hk b o hbC hbf hbD e)
end
end Mine
open PySem PySem.Calls PyProof.Rows PySem.W
set_option Elab.async false
set_option autoImplicit false
set_option linter.unusedVariables false
namespace Mine

theorem newSet_ok {prog : Program} {w : World} {A : Around} {E : Value → Shared → Prop} {s : Shared} {Q : Value → Shared → Prop}
    (h : SetG (s.heap.push { cls := .type "set", dict := none, data := .set #[] 0 (.fresh 0 0 (!w.params.followText "set-order")) }) s.heap.objs.size (!w.params.followText "set-order") [] →
      Q (.ref s.heap.objs.size) { s with heap := s.heap.push { cls := .type "set", dict := none, data := .set #[] 0 (.fresh 0 0 (!w.params.followText "set-order")) } }) :
    wpAny (model prog w) A (newSet (.type "set")) Q E s := by
  unfold newSet setsByText
  refine wpAny_bind (wpAny_bind (wpAny_askSetting (wpAny_pure ?_)))
  dsimp only
  simp only [newObj]
  exact wpAny_bind (wpAny_alloc (wpAny_pure (h ⟨_, #[], 0, _, Heap.get?_push_size _ rfl, ⟨rfl, rfl, rfl⟩, rfl, Good.nil _, .nil⟩)))

section
variable {S : Sys} {sc : Scope} {ns : List Str} {base : Heap} {env : Env} {s s' s0 : Shared} {ρ ρ' : Ro} {rt : Nat → Addr} {b : Bool} {d : Nat} {q : Md} {p p1 p2 p' : PV} {mg mb : Str → Option Value}

noncomputable abbrev ledOf (S : Sys) : Bool := !S.w.params.followText "set-order"

noncomputable def Es (S : Sys) (sc : Scope) (ns : List Str) (b : Bool) (d : Nat) (ρ : Ro) (e : Expr) (Pk : List Nat → Prop) : Prop :=
  ∀ (A : Around) (base : Heap) (env : Env) (s : Shared) (rt : Nat → Addr) (Q : Value → Shared → Prop), Room d A → Fm S sc ns base env s.heap ρ rt →
    (∀ D s' ks, Kp S b s s' → s.heap.get? D = none → SetG s'.heap D (ledOf S) ks → Pk ks → Q (.ref D) s') → wpAny (model S.prog S.w) A (eval e env) Q No s

theorem set_block {A : Around} {E : Value → Shared → Prop} {elt iter : Expr} {x : Str} {px : Pos} {scope : Scope} {cl : List (Str × Addr)} {pos : Pos} {s₂ : Shared} {I : Addr} {fp wr : List Addr} {n : Nat} {P : Nat → Value → Prop}
    {St : Nat → Heap → Prop} (W : Walks S.prog S.w A I fp wr n P St) (F : Value → Value → Prop) (g : Nat → Nat) {RR : Value → Addr → Result → Shared → Prop}
    (hcell : ∀ y ∈ scope.names, y.2 ≠ .cell) (hkind : scope.kind = .function) (hx : scope.names.lookup x = some .local) (hst : St 0 s₂.heap) (hfp : ∀ b ∈ fp, b < s₂.heap.objs.size)
    (hq : QuietOnC S.prog S.w A env scope cl x [] elt wr P (fun _ => true) F s₂) (hn9 : n ≤ 9) (hg : ∀ i, i < n → g i < 32) (hF : ∀ i v y, i < n → P i v → F v y → ∃ t, y = .int (g i) t)
    (hRR : ∀ D C h' tk m' ks, s₂.heap.get? D = none → s₂.heap.get? C = none → D ≠ C → h'.Ns C m' → SetG h' D (ledOf S) ks → ks.Nodup → (∀ k, k ∈ ks ↔ ∃ i, i < n ∧ g i = k) →
      (∀ b o, b ∉ wr → s₂.heap.get? b = some o → h'.get? b = some o) → RR (.ref D) C (.ok .next) { s₂ with heap := h', toks := tk }) :
    wpAny (model S.prog S.w) A (newSet (.type "set")) (fun acc s₃ => wpAny (model S.prog S.w) A (newFunctionEnv scope env.globals cl [] env.qual none .none (some env)) (fun cenv s₄ =>
      codeAny (model S.prog S.w) A (.compStart (.SetComp elt [⟨.Name x px, iter, [], 0⟩] scope pos) 0 (.ref I) acc { cenv with scope := relabel scope env }) (RR acc cenv.locals) s₄) E s₃) E s₂ := by
  refine newSet_ok fun hnew => wpAny_newFunctionEnv hcell (by intro y hy; simp at hy) (fun h₁ hns₁ hsb₁ => ?_) hkind
  dsimp only at hns₁ hsb₁ ⊢
  generalize hH2 : s₂.heap.push { cls := .type "set", dict := none, data := .set #[] 0 (.fresh 0 0 (!S.w.params.followText "set-order")) } = H2 at hns₁ hsb₁ hnew ⊢
  have hC : H2.objs.size = s₂.heap.objs.size + 1 := by rw [← hH2, Heap.size_push]
  have hDC : s₂.heap.objs.size ≠ H2.objs.size := by rw [hC]; exact Nat.ne_of_lt (Nat.lt_succ_self _)
  have hCle : s₂.heap.objs.size ≤ H2.objs.size := by rw [hC]; exact Nat.le_succ _
  have below : ∀ b, b < s₂.heap.objs.size → b ≠ H2.objs.size ∧ b ≠ s₂.heap.objs.size := fun b hb => ⟨by rw [hC]; exact Nat.ne_of_lt (Nat.lt_succ_of_lt hb), Nat.ne_of_lt hb⟩
  have hDf : s₂.heap.objs.size ∉ fp := fun hm => Nat.lt_irrefl _ (hfp _ hm)
  have hCf : H2.objs.size ∉ fp := fun hm => by have := hfp _ hm; rw [hC] at this; exact Nat.lt_irrefl _ (Nat.lt_of_succ_lt this)
  have old : ∀ b o, s₂.heap.get? b = some o → h₁.get? b = some o := fun b o e => hsb₁.extBut b o (below b (Heap.lt_size e)).1 (Heap.get?_push_of_some _ (hH2 ▸ Heap.get?_push_of_some _ e))
  have hacc : SetG h₁ s₂.heap.objs.size (ledOf S) [] := hnew.at fun o e => hsb₁.extBut _ _ hDC (Heap.get?_push_of_some _ e)
  have hst₁ : St 0 h₁ := W.frame _ _ _ hst fun b _ o e => old b o e
  have fresh : ∀ a, s₂.heap.objs.size ≤ a → s₂.heap.get? a = none := fun a ha => by
    cases e : s₂.heap.get? a with
    | none => rfl
    | some o' => exact absurd (Heap.lt_size e) (Nat.not_lt.mpr ha)
  have loop : ∀ s₃ : Shared, s₃ = { s₂ with heap := h₁, toks := s₂.toks + ([] : List (Str × Value)).length } →
      codeAny (model S.prog S.w) A (.compLoop (.SetComp elt [⟨.Name x px, iter, [], 0⟩] scope pos) 0 (.ref I) (.ref s₂.heap.objs.size) (compEnvC scope cl H2.objs.size env))
        (RR (.ref s₂.heap.objs.size) H2.objs.size) s₃ := by
    rintro s₃ rfl
    refine compLoop_set (cenv := compEnvC scope cl H2.objs.size env) W F g (lookup_relabel_local hx) (by simp [compEnvC, relabel, hkind]) hDC hDf hCf hst₁ hacc hns₁ hn9 hg hF
      (fun i v s₃ m₃ hv hn hm hk htk => hq.elt _ i v s₃ m₃ _ hCle hv rfl hn hm (fun b o hbf e => hk b o (below b (Heap.lt_size e)).1 hbf (below b (Heap.lt_size e)).2 (old b o e)) htk) fun h' tk m' ks hn ha hnd hmem hk => ?_
    exact hRR _ _ h' tk m' ks (fresh _ (Nat.le_refl _)) (fresh _ (by rw [hC]; exact Nat.le_succ _)) hDC hn ha hnd hmem fun b o hbf e =>
      hk b o (below b (Heap.lt_size e)).1 hbf (below b (Heap.lt_size e)).2 (old b o e)
  exact compStart_set (loop _ rfl) (W.self 0 _ _ _ hst₁ (loop _ rfl))

theorem SetG.extBut {h h' : Heap} {a c : Addr} {L : Bool} {ks : List Nat} (x : SetG h a L ks) (hs : Heap.ExtBut c h h') (hne : a ≠ c) : SetG h' a L ks := x.at fun o e => hs a o hne e

theorem Es.comp {elt iter : Expr} {x : Str} {px : Pos} {scope : Scope} {pos : Pos} {items : List PV} {f : PV → PV} (g : Nat → Nat) (caps : List Nat) (ok : CompOk sc ns scope x caps) (hit : It S sc ns b d ρ iter items)
    (ha : items.all (·.atom) = true) (hn9 : items.length ≤ 9)
    (he : ∀ p ∈ items, Ev S scope (capNs ns x caps) true d .R (capRo ρ p caps) elt (f p)) (hf : ∀ p ∈ items, (f p).atom = true) (hg : ∀ i p, items[i]? = some p → f p = .int (g i) ∧ g i < 32)
    (hs : ∀ env x, foldedSetIterable iter env x = pure x := by intro _ _; rfl) :
    Es S sc ns b d ρ (.SetComp elt [⟨.Name x px, iter, [], 0⟩] scope pos) (fun ks => ks.Nodup ∧ ∀ k, k ∈ ks ↔ ∃ i, i < items.length ∧ g i = k) := by
  intro A base env s rt Q R F hQ
  show wpAny (model S.prog S.w) A (comprehension (.SetComp elt [⟨.Name x px, iter, [], 0⟩] scope pos) scope env _ (newSet (.type "set")) false (eval iter env) none) Q No s
  refine wpAny_comprehension_free (use := none) rfl (hs env) (ok.clos F) ok.kind ok.names' (wpAny_mono (hit A base env s rt (fun it s₂ => ∃ s2 I fp P St, it = .ref I ∧ s₂ = s2 ∧ Iter S b A env ρ rt s items s2 I fp P St) R F fun s2 I fp P St it => ⟨s2, I, fp, P, St, rfl, rfl, it⟩) (fun xv s₁ h₁ => wpAny_mono h₁ (fun it s₂ h₂ => ?_) fun _ _ e => e) fun _ _ e => e)
  obtain ⟨s2, I, fp, P, St, rfl, rfl, it⟩ := h₂
  have hq := comp_quiet (tst := fun _ => true) (ifs := []) R F it ok ha (fun p hp => .nil) (fun p hp _ => he p hp) (fun p hp _ => hf p hp)
  refine set_block (n := items.length) (RR := fun acc C => compPost (model S.prog S.w) A No none Q acc C) it.W _ g ok.cell' ok.kind ok.loc it.st (fun y hy => let ⟨_, _, o, e⟩ := it.fpOk y hy; Heap.lt_size e) hq hn9 (fun i hi => ?_) (fun i v y hi hP hFy => ?_) ?_
  · exact (hg i items[i] (List.getElem?_eq_getElem hi)).2
  · obtain ⟨p, fp', e1, e2, _⟩ := it.item i v hP
    have hat := List.all_eq_true.mp ha p (List.mem_of_getElem? e1)
    have r := hFy s₂.heap rfl
    rw [e2.atomOf hat, (hg i p e1).1] at r
    cases r with
    | int i t => exact ⟨t, rfl⟩
  · intro D C h' tk m' ks hD hC hDC hn hS hnd hmem hk
    refine ⟨m', hn, fun h'' hs'' => ?_⟩
    have hT := it.topNone F
    have hk' : ∀ x o, x ∉ [I] → s₂.heap.get? x = some o → h''.get? x = some o := fun y o hy e => hs''.extBut y o (by rintro rfl; rw [hC] at e; cases e) (hk y o hy e)
    have kp : Kp S b s { s₂ with heap := h'', toks := tk } := compKp it.kp (it.itr 0 _ it.st) it.fresh hT hk'
    exact hQ D { s₂ with heap := h'', toks := tk } ks kp (it.kp.dead hD) (hS.extBut hs''.extBut hDC) ⟨hnd, hmem⟩

theorem Ev.callSet {f : Str} {id : String} {np pos : Pos} {e : Expr} {Pk : List Nat → Prop} (n : GName S sc f (.builtin id)) (h : Es S sc ns b d ρ e Pk)
    (ho : ∀ (A : Around) (s : Shared) (D : Addr) (ks : List Nat) (Q : Value → Shared → Prop), Room d A → Gd S s.heap → SetG s.heap D (ledOf S) ks → Pk ks → Post S b s p Q → wpAny (model S.prog S.w) A (PySem.call (.builtin id) [.ref D]) Q No s)
    (hd : (f == ("__debug__" : Str)) = false := by decide)
    (he : ∀ env, starEach [e] env = [(false, eval e env)] := by intro _; rfl) (hp : ∀ env, (backTo pos (starEach [e] env)).any (·.1) = false := by intro _; rfl) :
    Ev S sc ns b d q ρ (.Call (.Name f np) [e] [] pos) p := by
  intro A base env s rt Q R F hQ
  refine wpAny_Call_NameR (n.eval F ?_ hd)
  refine callWith_builtin (hp env) ?_
  have hb : backTo pos (starEach [e] env) = (false, eval e env) :: backTo pos (starEach [] env) := by rw [he]; rfl
  have key := wpAny_items_cons (M := model S.prog S.w) (A := A) (E := No) (pos := pos) (Q := fun vs s' => wpAny (model S.prog S.w) A (PySem.call (.builtin id) vs []) Q No s') (e := e) (rest := []) (env := env) (s := s)
    (h A base env s rt _ R F fun D s1 ks k1 hD hS hP => spliced_nil (ho A s1 D ks Q R k1.gd hS hP fun v s3 fp k3 r3 hf => hQ v s3 fp (k1.trans k3) r3 (MdOk.ofF F (fun x hx => k1.dead (hf x hx)) q))) (he env)
  rw [hb] at key ⊢
  exact evalArgs_plain key
end
end Mine
open PySem PySem.Calls PyProof.Rows PySem.W
set_option Elab.async false
set_option autoImplicit false
set_option linter.unusedVariables false
set_option maxRecDepth 100000
namespace Mine

theorem erase_perm {α : Type} : ∀ (l : List α) (i : Nat) (x : α), l[i]? = some x → (x :: l.eraseIdx i).Perm l
  | [], i, x, h => by simp at h
  | y :: l, 0, x, h => by simp at h; subst h; exact .refl _
  | y :: l, i + 1, x, h => by
    have ih := erase_perm l i x (by simpa using h)
    rw [List.eraseIdx_cons_succ]
    exact (List.Perm.swap y x _).trans (ih.cons y)
theorem pick_go {α : Type} (next : Nat → Nat) : ∀ (fuel k : Nat) (left : List α) (out : Array α), fuel = left.length → (pickOrder.go next fuel k left out).toList.Perm (out.toList ++ left)
  | 0, k, left, out, h => by
    have : left = [] := List.length_eq_zero_iff.mp h.symm
    subst this
    unfold pickOrder.go
    rw [List.append_nil]
  | fuel + 1, k, left, out, h => by
    unfold pickOrder.go
    have hi : next k % left.length < left.length := Nat.mod_lt _ (by (first | lia | omega))
    rw [List.getElem?_eq_getElem hi]
    dsimp only
    refine (pick_go next fuel (k + 1) _ _ (by rw [List.length_eraseIdx_of_lt hi]; (first | lia | omega))).trans ?_
    rw [Array.toList_push, List.append_assoc]
    exact (erase_perm left _ _ (List.getElem?_eq_getElem hi)).append_left _
theorem pick_perm {α : Type} (next : Nat → Nat) (xs : Array α) : (pickOrder next xs).toList.Perm xs.toList := pick_go next xs.size 0 xs.toList #[] (by simp)

section
variable {prog : Program} {w : World} {A : Around} {E : Value → Shared → Prop} {s : Shared}

structure Order (prog : Program) (w : World) (a : Addr) (o : Obj) (ep : Nat) (ord : List (Int × Value)) (sl : Nat → Nat) : Prop where
  zero : sl 0 = 0
  item : ∀ (A : Around) (s : Shared) (Q : Option (Value × Nat) → Shared → Prop) (E : Value → Shared → Prop) (i : Nat) (e : Int × Value), s.heap.get? a = some o → ord[i]? = some e → Q (some (e.2, sl (i + 1))) s → wpAny (model prog w) A (setNext a (sl i) i ep) Q E s
  done : ∀ (A : Around) (s : Shared) (Q : Option (Value × Nat) → Shared → Prop) (E : Value → Shared → Prop), s.heap.get? a = some o → Q none s → wpAny (model prog w) A (setNext a (sl ord.length) ord.length ep) Q E s

theorem order_of {a : Addr} {o : Obj} {es : Array (Int × Value)} {ep : Nat} {t : SetTable} (hd : o.data = .set es ep t) (G : Good es t (!w.params.followText "set-order")) :
    ∃ ord sl, ord.Perm es.toList ∧ Order prog w a o ep ord sl := by
  cases hb : w.params.followText "set-order" with
  | true =>
    obtain ⟨ord, ho⟩ : ∃ ord, ord = pickOrder (w.params.setOrder a ep) es := ⟨_, rfl⟩
    have main : ∀ (A : Around) (s : Shared) (Q : Option (Value × Nat) → Shared → Prop) (E : Value → Shared → Prop) (i : Nat), s.heap.get? a = some o → Q ((ord[i]?).map fun e => (e.2, 0)) s → wpAny (model prog w) A (setNext a 0 i ep) Q E s := fun A s Q E i hg hq => by
      unfold setNext
      refine wpAny_bind (wpAny_setState_of hg hd G.fits ?_)
      dsimp only
      unfold setsByText
      refine wpAny_bind (wpAny_bind (wpAny_askSetting (wpAny_pure ?_)))
      rw [show (model prog w).w.params.followText "set-order" = true from hb]
      simp only [if_true, bne_self_eq_false, Bool.false_eq_true, if_false]
      unfold setWalk
      refine wpAny_bind (wpAny_bind (wpAny_setState_of hg hd G.fits ?_))
      dsimp only
      unfold setsByText
      refine wpAny_bind (wpAny_bind (wpAny_askSetting (wpAny_pure ?_)))
      rw [show (model prog w).w.params.followText "set-order" = true from hb]
      simp only [if_true]
      refine wpAny_bind (wpAny_askSetting (wpAny_pure ?_))
      exact wpAny_pure (by rw [ho] at hq; exact hq)
    refine ⟨ord.toList, fun _ => 0, ho ▸ pick_perm _ _, rfl, fun A s Q E i e hg he hq => main A s Q E i hg ?_, fun A s Q E hg hq => main A s Q E _ hg ?_⟩
    · rw [← Array.getElem?_toList, he]; exact hq
    · rw [Array.length_toList, Array.getElem?_eq_none (Nat.le_refl _)]; exact hq
  | false =>
    have hled : t.led = true := by rw [G.led, hb]; rfl
    obtain ⟨sl, hsl⟩ : ∃ sl : Nat → Nat, ∀ i, sl i = match i with | 0 => 0 | i + 1 => t.place.getD i 0 + 1 := ⟨fun i => match i with | 0 => 0 | i + 1 => t.place.getD i 0 + 1, fun _ => rfl⟩
    have hbel : ∀ i, i ≤ es.size → SetTable.below t.place (sl i) = i := fun i hi => by
      cases i with
      | zero => rw [hsl]; exact below_zero _ G.rise
      | succ i => rw [hsl]; exact below_next _ G.rise (by rw [G.size]; (first | lia | omega))
    have main : ∀ (A : Around) (s : Shared) (Q : Option (Value × Nat) → Shared → Prop) (E : Value → Shared → Prop) (i : Nat), i ≤ es.size → s.heap.get? a = some o → Q (match es[i]?, t.place[i]? with | some (_, x), some j => some (x, j + 1) | _, _ => none) s → wpAny (model prog w) A (setNext a (sl i) i ep) Q E s := fun A s Q E i hi hg hq => by
      unfold setNext
      refine wpAny_bind (wpAny_setState_of hg hd G.fits ?_)
      dsimp only
      unfold setsByText
      refine wpAny_bind (wpAny_bind (wpAny_askSetting (wpAny_pure ?_)))
      rw [show (model prog w).w.params.followText "set-order" = false from hb]
      simp only [Bool.false_eq_true, if_false]
      rw [if_neg]
      · refine wpAny_bind ?_
        show wpAny _ _ (if (!t.led && !es.isEmpty) = true then unsupported _ else pure ()) _ _ _
        rw [if_neg (by rw [hled]; simp)]
        refine wpAny_pure (wpAny_pure ?_)
        rw [hbel i hi]
        exact hq
      · show ¬ ((!t.plain && decide (es.size > 1)) = true)
        rw [G.plain]; simp
    refine ⟨es.toList, sl, .refl _, by rw [hsl], fun A s Q E i e hg he hq => ?_, fun A s Q E hg hq => ?_⟩
    · have hi : i < es.size := by
        have := (List.getElem?_eq_some_iff.mp he).1
        simpa using this
      refine main A s Q E i (by (first | lia | omega)) hg ?_
      rw [← Array.getElem?_toList, he, Array.getElem?_eq_getElem (show i < t.place.size by rw [G.size]; exact hi)]
      rw [hsl] at hq
      simp only [Array.getD_eq_getD_getElem?, Array.getElem?_eq_getElem (show i < t.place.size by rw [G.size]; exact hi)] at hq
      exact hq
    · rw [Array.length_toList]
      refine main A s Q E _ (Nat.le_refl _) hg ?_
      rw [Array.getElem?_eq_none (Nat.le_refl _)]
      exact hq

theorem slot_si_next : Slot "set_iterator" "__next__" "set_iterator.__next__" :=
  .of (owner := "set_iterator") (n := "__next__") (by rw [typeLookup_type, builtinLookup_eq_fast]; kernel_rfl) (by decide +kernel) (by decide +kernel) (by decide +kernel)
    (by first | exact .inl (by decide +kernel) | exact .inr (by decide +kernel)) (by rw [isSubtype_type]; kernel_rfl)
theorem entry_si_next : entryFor table "set_iterator.__next__" = some Builtin.«set_iterator.__next__» := entryFor_of_fast (by kernel_rfl)
theorem args_si_next (a : Value) : argsOk "set_iterator.__next__" ⟨[a], []⟩ := by unfold argsOk; kernel_rfl
theorem slot_si_iter : Slot "set_iterator" "__iter__" "set_iterator.__iter__" :=
  .of (owner := "set_iterator") (n := "__iter__") (by rw [typeLookup_type, builtinLookup_eq_fast]; kernel_rfl) (by decide +kernel) (by decide +kernel) (by decide +kernel)
    (by first | exact .inl (by decide +kernel) | exact .inr (by decide +kernel)) (by rw [isSubtype_type]; kernel_rfl)
theorem entry_si_iter : entryFor table "set_iterator.__iter__" = some Builtin.«dict_keyiterator.__iter__» := entryFor_alias (id' := "dict_keyiterator.__iter__") (by kernel_rfl) rfl (by decide +kernel) (by kernel_rfl)
theorem args_si_iter (a : Value) : argsOk "set_iterator.__iter__" ⟨[a], []⟩ := by unfold argsOk; kernel_rfl
theorem entry_set_iter' : entryFor table "set.__iter__" = some Builtin.«frozenset.__iter__» := entryFor_alias (id' := "frozenset.__iter__") (by kernel_rfl) rfl (by decide +kernel) (by kernel_rfl)

noncomputable def IsSI (h : Heap) (I a : Addr) (slot i n ep : Nat) : Prop := ∃ o, h.get? I = some o ∧ o.cls = .type "set_iterator" ∧ o.data = .fields #[rawInt slot, rawInt i, .ref a, rawInt n, rawInt ep]
theorem IsSI.typeIs {I a : Addr} {slot i n ep : Nat} (x : IsSI s.heap I a slot i n ep) : s.TypeIs (.ref I) "set_iterator" := let ⟨o, ho, hc, _⟩ := x; ⟨o, ho, hc⟩
theorem IsSI.at {h h' : Heap} {I a : Addr} {slot i n ep : Nat} (x : IsSI h I a slot i n ep) (e : ∀ o, h.get? I = some o → h'.get? I = some o) : IsSI h' I a slot i n ep := let ⟨o, ho, r⟩ := x; ⟨o, e _ ho, r⟩

theorem pyIter_set {a : Addr} {o : Obj} {es : Array (Int × Value)} {ep : Nat} {t : SetTable} {L : Bool} {Q : Value → Shared → Prop} (ho : s.heap.get? a = some o) (hex : o.ExactSet) (hd : o.data = .set es ep t) (G : Good es t L)
    (hQ : Q (.ref s.heap.objs.size) { s with heap := s.heap.push { cls := .type "set_iterator", data := .fields #[rawInt 0, rawInt 0, .ref a, rawInt es.size, rawInt ep] } }) :
    wpAny (model prog w) A (pyIter (.ref a)) Q E s := by
  have hT : s.TypeIs (.ref a) "set" := ⟨o, ho, hex.1⟩
  refine wpAny_pyIter_slot hT F.slot_set_iter (wpAny_call_entry F.slot_set_iter hT entry_set_iter' ?_ (F.args_set_iter_1 _))
  unfold Builtin.«frozenset.__iter__»
  refine wpAny_bind (wpAny_pure ?_)
  unfold Builtin.Frozenset.sizeOf
  refine wpAny_bind (wpAny_bind (wpAny_setEntries_of ho hd G.fits (wpAny_pure ?_)))
  unfold setDrawn
  refine wpAny_bind (wpAny_bind (wpAny_setState_of ho hd G.fits ?_))
  dsimp only
  unfold setsByText
  refine wpAny_bind (wpAny_bind (wpAny_askSetting (wpAny_pure ?_)))
  refine wpAny_pure ?_
  rw [if_neg]
  · refine wpAny_bind (wpAny_pure ?_)
    unfold setEpoch
    refine wpAny_bind (wpAny_bind (wpAny_setState_of ho hd G.fits (wpAny_pure ?_)))
    refine wpAny_bind (wpAny_newObj_type (wpAny_pure ⟨_, rfl, "set_iterator", _, ⟨_, Heap.get?_push_size _ rfl, rfl⟩, slot_si_next.lookup, ?_⟩))
    exact hQ
  · have : (!t.plain && decide (es.size > 1)) = false := by rw [G.plain]; rfl
    show ¬ ((!_ && (!t.plain && decide (es.size > 1))) = true)
    rw [this]; simp
end
end Mine
open PySem PySem.Calls PyProof.Rows PySem.W
set_option Elab.async false
set_option autoImplicit false
set_option linter.unusedVariables false
set_option maxRecDepth 100000
namespace Mine
section
variable {prog : Program} {w : World} {A : Around} {E : Value → Shared → Prop} {s : Shared}

theorem si_item {I a : Addr} {o : Obj} {es : Array (Int × Value)} {ep : Nat} {t : SetTable} {L : Bool} {ord : List (Int × Value)} {sl : Nat → Nat} {i n : Nat} {e : Int × Value} {Q : Option Value → Shared → Prop}
    (hit : IsSI s.heap I a (sl i) i n ep) (ho : s.heap.get? a = some o) (hd : o.data = .set es ep t) (G : Good es t L) (hn : es.size = n) (Or : Order prog w a o ep ord sl) (he : ord[i]? = some e)
    (hQ : ∀ h', IsSI h' I a (sl (i + 1)) (i + 1) n ep → Heap.SameBut I s.heap h' → Q (some e.2) { s with heap := h' }) :
    wpAny (model prog w) A (pyNext (.ref I)) Q E s := by
  obtain ⟨oi, hoi, hci, hdi⟩ := id hit
  unfold pyNext
  refine wpAny_bind (wpAny_attempt (wpAny_callSpecial?_slot (name := Str.ofString "__next__") hit.typeIs slot_si_next
    (wpAny_call_entry slot_si_next hit.typeIs entry_si_next ?_ (args_si_next _))))
  unfold Builtin.«set_iterator.__next__»
  refine wpAny_bind (wpAny_pure ?_)
  refine wpAny_bind (wpAny_fieldsOf hoi hdi ?_)
  show wpAny _ _ (setEntries a >>= _) _ _ s
  refine wpAny_bind (wpAny_setEntries_of ho hd G.fits ?_)
  rw [if_neg (by rw [hn]; simp)]
  show wpAny _ _ (setNext a ((sl i : Nat) : Int).toNat ((i : Nat) : Int).toNat ((ep : Nat) : Int).toNat >>= _) _ _ s
  rw [Int.toNat_natCast, Int.toNat_natCast, Int.toNat_natCast]
  refine wpAny_bind (Or.item _ s _ _ i e ho he ?_)
  dsimp only
  refine wpAny_bind (wpAny_setField hoi hdi (by simp) ?_)
  have h1 : (s.heap.update I (Obj.mapFields (·.setIfInBounds 0 (rawInt ((sl (i + 1) : Nat) : Int))))).get? I = some _ := Heap.get?_update_self _ hoi (Obj.isFreed_of_fields (Obj.data_mapFields hdi _))
  have d1 := Obj.data_mapFields hdi (·.setIfInBounds 0 (rawInt ((sl (i + 1) : Nat) : Int)))
  refine wpAny_bind (wpAny_setField h1 d1 (by simp) ?_)
  have h2 := Heap.get?_update_self (Obj.mapFields (·.setIfInBounds 1 (rawInt ((i : Int) + 1)))) h1 (Obj.isFreed_of_fields (Obj.data_mapFields d1 _))
  have d2 := Obj.data_mapFields d1 (·.setIfInBounds 1 (rawInt ((i : Int) + 1)))
  refine wpAny_pure ⟨_, rfl, wpAny_pure (hQ _ ⟨_, h2, (Obj.cls_mapFields ..).trans ((Obj.cls_mapFields ..).trans hci), ?_⟩ ((Heap.SameBut.update ..).trans (Heap.SameBut.update ..)))⟩
  rw [d2]
  simp [rawInt]

theorem si_end {I a : Addr} {o : Obj} {es : Array (Int × Value)} {ep : Nat} {t : SetTable} {L : Bool} {ord : List (Int × Value)} {sl : Nat → Nat} {n : Nat} {Q : Option Value → Shared → Prop} (hh : A.handled = none)
    (hit : IsSI s.heap I a (sl ord.length) ord.length n ep) (ho : s.heap.get? a = some o) (hd : o.data = .set es ep t) (G : Good es t L) (hn : es.size = n) (Or : Order prog w a o ep ord sl)
    (hQ : ∀ h', Heap.ExtBut I s.heap h' → Q none { s with heap := h' }) :
    wpAny (model prog w) A (pyNext (.ref I)) Q E s := by
  obtain ⟨oi, hoi, hci, hdi⟩ := id hit
  unfold pyNext
  refine wpAny_bind (wpAny_attempt (wpAny_callSpecial?_slot (name := Str.ofString "__next__") hit.typeIs slot_si_next
    (wpAny_call_entry slot_si_next hit.typeIs entry_si_next ?_ (args_si_next _))))
  unfold Builtin.«set_iterator.__next__»
  refine wpAny_bind (wpAny_pure ?_)
  refine wpAny_bind (wpAny_fieldsOf hoi hdi ?_)
  show wpAny _ _ (setEntries a >>= _) _ _ s
  refine wpAny_bind (wpAny_setEntries_of ho hd G.fits ?_)
  rw [if_neg (by rw [hn]; simp)]
  show wpAny _ _ (setNext a ((sl ord.length : Nat) : Int).toNat ((ord.length : Nat) : Int).toNat ((ep : Nat) : Int).toNat >>= _) _ _ s
  rw [Int.toNat_natCast, Int.toNat_natCast, Int.toNat_natCast]
  refine wpAny_bind (Or.done _ s _ _ ho ?_)
  dsimp only
  show wpAny _ _ (setField (.ref I) 2 .none >>= _) _ _ s
  refine wpAny_bind (wpAny_setField hoi hdi (by simp) ?_)
  show wpAny _ _ (newExc (.type "StopIteration") [] >>= _) _ _ _
  refine wpAny_bind ?_
  simp only [newExc, newTuple]
  refine wpAny_bind (wpAny_newObj_type ?_ (by size_fits))
  refine wpAny_bind (m := firstArgMember _ _) (wpAny_of_eq (a := Value.none) (by first | rfl | (simp only [firstArgMember]; rfl)) ?_)
  refine wpAny_newObj_type ?_ (by size_fits)
  simp only [raiseNew]
  refine wpAny_bind (wpAny_handled ?_)
  rw [show A.in1.handled = none from hh]
  refine wpAny_bind (wpAny_pure (wpAny_throw ?_))
  refine wpAny_bind (wpAny_isInstance (T := "StopIteration") (b := true) ⟨_, Heap.get?_push_size _ rfl, rfl⟩ isSubtype_stop ?_)
  exact wpAny_pure (hQ _ (((Heap.SameBut.update ..).extBut.push _).push _))

theorem pyIter_si {I a : Addr} {slot i n ep : Nat} {Q : Value → Shared → Prop} (hit : IsSI s.heap I a slot i n ep) (h : Q (.ref I) s) : wpAny (model prog w) A (pyIter (.ref I)) Q E s := by
  refine wpAny_pyIter_slot hit.typeIs slot_si_iter (wpAny_call_entry slot_si_iter hit.typeIs entry_si_iter ?_ (args_si_iter _))
  show wpAny _ _ (ret (.ref I)) _ _ s
  exact wpAny_pure ⟨_, rfl, "set_iterator", _, hit.typeIs, slot_si_next.lookup, h⟩

theorem walks_set (hh : A.handled = none) {I a : Addr} (hne : a ≠ I) {o : Obj} {es : Array (Int × Value)} {ep : Nat} {t : SetTable} {L : Bool} {ord : List (Int × Value)} {sl : Nat → Nat} {n : Nat}
    (hd : o.data = .set es ep t) (G : Good es t L) (hn : es.size = n) (hl : ord.length = n) (Or : Order prog w a o ep ord sl) :
    Walks prog w A I [I, a] [I] n (fun i v => ∃ e, ord[i]? = some e ∧ v = e.2) (fun i h => IsSI h I a (sl i) i n ep ∧ h.get? a = some o) where
  sub := fun b hb => by simp at hb; simp [hb]
  frame := fun _ _ _ st hk => ⟨st.1.at fun o e => hk I (by simp) o e, hk a (by simp) _ st.2⟩
  item := fun i s Q E hi st hQ => by
    have he : ord[i]? = some ord[i] := List.getElem?_eq_getElem (by (first | lia | omega))
    refine si_item st.1 st.2 hd G hn Or he fun h' hit' hs' => ?_
    exact hQ _ h' s.toks ⟨_, he, rfl⟩ ⟨hit', hs'.extBut a o hne st.2⟩ fun b o hb e => hs'.extBut b o (fun h => hb (by simp [h])) e
  done := fun s Q E st hQ => by
    subst hl
    exact si_end hh st.1 st.2 hd G hn Or fun h' he' => hQ h' s.toks fun b o hb e => he' b o (fun h => hb (by simp [h])) e
  self := fun _ _ _ _ st hQ => pyIter_si st.1 hQ
end
end Mine
open PySem PySem.Calls PyProof.Rows PySem.W
set_option Elab.async false
set_option autoImplicit false
set_option linter.unusedVariables false
set_option maxRecDepth 100000
namespace Mine
section
variable {prog : Program} {w : World} {A : Around} {E : Value → Shared → Prop} {s : Shared}

theorem collect_set {D : Addr} {o : Obj} {es : Array (Int × Value)} {ep : Nat} {t : SetTable} {ord : List (Int × Value)} {sl : Nat → Nat} {L : Bool} {Q : List Value → Shared → Prop} (hh : A.handled = none)
    (ho : s.heap.get? D = some o) (hex : o.ExactSet) (hd : o.data = .set es ep t) (G : Good es t L) (Or : Order prog w D o ep ord sl) (hl : ord.length = es.size)
    (hQ : ∀ h' tk, (∀ b o', s.heap.get? b = some o' → h'.get? b = some o') → Q (ord.map (·.2)) { s with heap := h', toks := tk }) :
    wpAny (model prog w) A (collect (.ref D)) Q E s := by
  have hT : s.TypeIs (.ref D) "set" := ⟨o, ho, hex.1⟩
  have hfew := G.few
  unfold collect
  refine wpAny_bind (wpAny_runValue (codeAny_builtin F.entry_proto_collect ?_))
  rw [Around.under_plainId F.plain_proto_collect _]
  show wpAny _ A.in1 (newList [] >>= fun l => again (.builtin "list.__iadd__" ⟨[l, .ref D], []⟩)) _ _ s
  refine wpAny_bind (wpAny_newObj_type ?_)
  refine wpAny_pure ⟨plainId_quiet F.plain_list_iadd _, codeAny_builtin F.entry_list_iadd ?_⟩
  rw [Around.under_plainId F.plain_list_iadd _]
  generalize hH : s.heap.push { cls := .type "list", data := .seq ([] : List Value).toArray } = H
  have hS₁ : H.get? s.heap.objs.size = some { cls := .type "list", data := .seq ([] : List Value).toArray } := hH ▸ Heap.get?_push_size _ rfl
  have hsize : H.objs.size = s.heap.objs.size + 1 := by rw [← hH, Heap.size_push]
  have ho₁ : H.get? D = some o := hH ▸ Heap.get?_push_of_some _ ho
  have old₁ : ∀ b o', s.heap.get? b = some o' → H.get? b = some o' := fun b o' e => hH ▸ Heap.get?_push_of_some _ e
  have hDS : s.heap.objs.size ≠ D := fun e => Nat.lt_irrefl _ (e ▸ Heap.lt_size ho)
  have h1 : Builtin.List.listSameRef (.ref s.heap.objs.size) (.ref D) = false := by simp [Builtin.List.listSameRef, hDS]
  show wpAny _ A.in1 (Builtin.List.listExtendWith (.ref s.heap.objs.size) (.ref D) (.ref s.heap.objs.size)) _ _ { s with heap := H }
  unfold Builtin.List.listExtendWith
  refine wpAny_bind (wpAny_typeOf (s := { s with heap := H }) ⟨o, ho₁, hex.1⟩ ?_)
  rw [if_neg (by rw [h1]; decide)]
  refine wpAny_bind (pyIter_set (s := { s with heap := H }) ho₁ hex hd G ?_)
  generalize hH2 : H.push { cls := .type "set_iterator", data := .fields #[rawInt 0, rawInt 0, .ref D, rawInt es.size, rawInt ep] } = H2
  have old₂ : ∀ b o', H.get? b = some o' → H2.get? b = some o' := fun b o' e => hH2 ▸ Heap.get?_push_of_some _ e
  have ho₂ : H2.get? D = some o := old₂ _ _ ho₁
  have hI₂ : H2.get? H.objs.size = some { cls := .type "set_iterator", data := .fields #[rawInt 0, rawInt 0, .ref D, rawInt es.size, rawInt ep] } := hH2 ▸ Heap.get?_push_size _ rfl
  have hT₂ : Shared.TypeIs { s with heap := H2 } (.ref D) "set" := ⟨o, ho₂, hex.1⟩
  refine wpAny_bind (wpAny_holding ?_)
  unfold Builtin.List.listLengthHint
  refine wpAny_bind (wpAny_specialOf (s := { s with heap := H2 }) hT₂ F.slot_set_len.lookup ?_)
  generalize hid : ("set.__len__" : String) = id0
  wp_delta
  rw [show splitId id0 = some ("set", "__len__") from by subst hid; decide +kernel]
  subst hid
  refine wpAny_bind (wpAny_isInstance (b := true) (s := { s with heap := H2 }) hT₂ (by rw [isSubtype_type]; kernel_rfl) ?_)
  rw [if_neg (by decide)]
  dsimp only
  rw [if_pos (by decide +kernel)]
  refine wpAny_bind (wpAny_typeOf (s := { s with heap := H2 }) hT₂ ?_)
  refine wpAny_pure ?_
  rw [if_pos (by decide +kernel)]
  refine wpAny_bind (wpAny_rule ?_)
  unfold Builtin.List.listTouch
  have hS₂ : H2.get? s.heap.objs.size = some (seqObj "list" #[] 0) := old₂ _ _ hS₁
  have hS₃ := get?_update_seq hS₂ (·.push .none)
  refine wpAny_bind (wpAny_bind (listUpdate_at (s := { s with heap := H2 }) hS₂ rfl ?_ (by simp) (by simp [sizeLine])))
  have hS₄ := get?_update_seq hS₃ (·.pop)
  refine listUpdate_at (s := { s with heap := H2.update s.heap.objs.size (Obj.mapSeq (·.push .none)) }) hS₃ rfl ?_ (by simp [sizeLine]) (by simp [sizeLine])
  generalize hH4 : (H2.update s.heap.objs.size (Obj.mapSeq (·.push .none))).update s.heap.objs.size (Obj.mapSeq (·.pop)) = H4 at hS₄ ⊢
  have keep₄ : ∀ b o', b ≠ s.heap.objs.size → H2.get? b = some o' → H4.get? b = some o' := fun b o' hb e => by
    rw [← hH4, Heap.get?_update_other _ _ (Ne.symm hb), Heap.get?_update_other _ _ (Ne.symm hb)]; exact e
  have hIS : H.objs.size ≠ s.heap.objs.size := by rw [hsize]; exact Nat.succ_ne_self _
  have hDI : D ≠ H.objs.size := by
    rw [hsize]; exact Nat.ne_of_lt (Nat.lt_succ_of_lt (Heap.lt_size ho))
  have W := (walks_set (prog := prog) (w := w) (A := A.in1) hh hDI hd G rfl hl Or).toS
  have hSf : s.heap.objs.size ∉ [H.objs.size, D] := fun hm => by
    simp only [List.mem_cons, List.not_mem_nil, or_false] at hm
    rcases hm with h | h
    · exact hIS h.symm
    · exact hDS h
  have hst : IsSI H4 H.objs.size D (sl 0) 0 es.size ep ∧ H4.get? D = some o := by
    refine ⟨⟨_, keep₄ _ _ hIS hI₂, rfl, ?_⟩, keep₄ _ _ (Ne.symm hDS) ho₂⟩
    rw [Or.zero]; rfl
  refine wpAny_pure ⟨plainId_quiet F.plain_extend_loop _, codeAny_extend_loopS W (by simp only [sizeLine]; (first | lia | omega)) _ hSf _ es.size 0 { s with heap := H4 } _ _ rfl (Nat.zero_le _) hst hS₄ (by
    have e : ((#[] : Array Value).push .none).pop = #[] := by simp
    rw [e]; exact ItemsOf.nil _) fun s' acc' c' hm hS' hacc' => ?_⟩
  show wpAny _ A (load s.heap.objs.size >>= _) _ _ s'
  refine wpAny_bind (wpAny_load hS' ?_)
  refine wpAny_pure ?_
  have hlist : acc'.toList = ord.map (·.2) := by
    apply List.ext_getElem?
    intro j
    by_cases hj : j < acc'.size
    · have hv : acc'[j]? = some acc'[j] := Array.getElem?_eq_getElem hj
      obtain ⟨e, he, hev⟩ := hacc'.2 j _ hv
      rw [Array.getElem?_toList, hv, List.getElem?_map, he, hev]; rfl
    · rw [Array.getElem?_toList, Array.getElem?_eq_none (by (first | lia | omega)), List.getElem?_map, List.getElem?_eq_none (by rw [hl, ← hacc'.1]; (first | lia | omega))]; rfl
  have hs' : s' = { s with heap := s'.heap, toks := s'.toks } := by
    have h1 := hm.gens
    have h2 := hm.drawn
    have h3 := hm.os
    cases s'
    simp only at h1 h2 h3
    subst h1; subst h2; subst h3
    rfl
  rw [hlist, hs']
  refine hQ _ _ fun b o' e => ?_
  have hbl := Heap.lt_size e
  refine hm.heap b o' (fun hb => ?_) (keep₄ b o' (Nat.ne_of_lt hbl) (old₂ _ _ (old₁ _ _ e)))
  simp only [List.mem_cons, List.not_mem_nil, or_false] at hb
  rcases hb with h | h
  · rw [h] at hbl; exact Nat.lt_irrefl _ hbl
  · rw [h, hsize] at hbl; exact Nat.not_lt.mpr (Nat.le_succ _) hbl

end
end Mine
open PySem PySem.Calls PyProof.Rows PySem.W
set_option Elab.async false
set_option autoImplicit false
set_option linter.unusedVariables false
set_option maxRecDepth 100000
namespace Mine
section
variable {prog : Program} {w : World} {A : Around} {E : Value → Shared → Prop} {s : Shared}

theorem sorted_set {D : Addr} {ks : List Nat} {Q : Value → Shared → Prop} (hh : A.handled = none) (hS : SetG s.heap D (!w.params.followText "set-order") ks)
    (h : ∀ h' tk a (out : Array Value) (ns' : List Int), (∀ b o', s.heap.get? b = some o' → h'.get? b = some o') → s.heap.get? a = none → h'.PlainList a out → IntsAre out.toList ns' → ns'.Perm (ks.map Int.ofNat) → ns'.Pairwise (· ≤ ·) → Q (.ref a) { s with heap := h', toks := tk }) :
    wpAny (model prog w) A (call (.builtin "sorted") [.ref D]) Q E s := by
  obtain ⟨o, es, ep, t, ho, hex, hd, G, hp⟩ := hS
  obtain ⟨ord, sl, hperm, Or⟩ := order_of (prog := prog) (a := D) (ep := ep) hd G
  have hfew := G.few
  have hol : ord.length = es.size := by have := hperm.length_eq; simpa using this
  refine Calls.call_function_entry kind_sorted plain_sorted entry_sorted (args_sorted1 _) ?_
  unfold Builtin.«sorted»
  refine wpAny_bind (m := checkCount "sorted" 1 1 _) (wpAny_pure ?_)
  refine wpAny_bind (collect_set (A := A.in1) hh ho hex hd G Or hol fun h1 tk1 hk1 => ?_)
  refine wpAny_bind (wpAny_newList ?_ (by rw [List.length_map]; simp only [sizeLine]; (first | lia | omega)))
  generalize hH : h1.push { cls := .type "list", data := .seq (ord.map (·.2)).toArray } = H
  have hoL : H.get? h1.objs.size = some (seqObj "list" (ord.map (·.2)).toArray 0) := hH ▸ Heap.get?_push_size _ rfl
  have old : ∀ b o', h1.get? b = some o' → H.get? b = some o' := fun b o' e => hH ▸ Heap.get?_push_of_some _ e
  have hsz : H.objs.size = h1.objs.size + 1 := by rw [← hH, Heap.size_push]
  have hI : ∀ l : List (Int × Value), (∀ e ∈ l, EntOk e) → IntsAre (l.map (·.2)) ((l.map keyN).map Int.ofNat) := by
    intro l
    induction l with
    | nil => intro _; exact .nil
    | cons e l ih =>
      intro hl
      obtain ⟨k, hk, e1, tk, e2⟩ := hl e (.head _)
      have : Int.ofNat (keyN e) = (k : Int) := by unfold keyN; rw [e1]; rfl
      rw [List.map_cons, List.map_cons, List.map_cons, this, e2]
      exact .cons _ _ (ih fun x hx => hl x (.tail _ hx))
  have hInts := hI ord fun e he => G.ents e (hperm.mem_iff.mp he)
  have hkp : (ord.map keyN).Perm ks := (hperm.map keyN).trans hp
  refine wpAny_bind (wpAny_holding (wpAny_call_entry (s := { s with heap := H, toks := tk1 }) slot_list_sort ⟨_, hoL, rfl⟩ entry_list_sort (list_sort_tree (s := { s with heap := H, toks := tk1 }) hoL hInts (by rw [List.length_map]; (first | lia | omega)) fun out ns' a1 a2 a3 => ⟨_, rfl, ?_⟩) (args_list_sort _)))
  have hL1 := get?_update_seq hoL fun _ => #[]
  have hp1 : ∀ b o', (H.update h1.objs.size (Obj.mapSeq fun _ => #[])).get? b = some o' → (((H.update h1.objs.size (Obj.mapSeq fun _ => #[])).push (seqObj "tuple" (ord.map (·.2)).toArray 0)).push (seqObj "list" #[] 0)).get? b = some o' := fun b o' e => Heap.get?_push_of_some _ (Heap.get?_push_of_some _ e)
  have hL2 := get?_update_seq (hp1 _ _ hL1) fun _ => out
  have hL3 : (sortedHeap H h1.objs.size (ord.map (·.2)) out).PlainList h1.objs.size out := by
    unfold sortedHeap
    exact ⟨_, hL2⟩
  have hp9 : ns'.Perm (ks.map Int.ofNat) := a2.trans (hkp.map Int.ofNat)
  refine wpAny_pure ⟨_, rfl, ?_⟩
  have hq := h (sortedHeap H h1.objs.size (ord.map (·.2)) out) tk1 h1.objs.size out ns'
  refine hq ?_ ?_ hL3 a1 hp9 a3
  · intro b o' e
    have hb := Heap.lt_size (hk1 b o' e)
    have hne : h1.objs.size ≠ b := fun e => Nat.lt_irrefl _ (e ▸ hb)
    unfold sortedHeap
    rw [Heap.get?_update_other _ _ hne]
    refine hp1 b o' ?_
    rw [Heap.get?_update_other _ _ hne]
    exact old _ _ (hk1 b o' e)
  · cases e : s.heap.get? h1.objs.size with
    | none => rfl
    | some o' => exact absurd (Heap.lt_size (hk1 _ _ e)) (Nat.lt_irrefl _)
end
end Mine
open PySem PySem.Calls PyProof.Rows PySem.W
set_option Elab.async false
set_option autoImplicit false
set_option linter.unusedVariables false
set_option maxRecDepth 20000
namespace Mine
section
variable {S : Sys} {sc : Scope} {ns : List Str} {base : Heap} {env : Env} {s s' s0 : Shared} {ρ ρ' : Ro} {rt : Nat → Addr} {b : Bool} {d : Nat} {q : Md} {p p1 p2 p' : PV} {mg mb : Str → Option Value}

theorem Ev.lenSet {np pos : Pos} {e : Expr} {Pk : List Nat → Prop} {N : Nat} (n : GName S sc "len" (.builtin "len")) (h : Es S sc ns b d ρ e Pk) (hk : ∀ ks, Pk ks → ks.length = N)
    (he : ∀ env, starEach [e] env = [(false, eval e env)] := by intro _; rfl) (hp : ∀ env, (backTo pos (starEach [e] env)).any (·.1) = false := by intro _; rfl) :
    Ev S sc ns b d q ρ (.Call (.Name "len" np) [e] [] pos) (.int N) := by
  refine Ev.callSet n h (fun A s D ks Q R G hS hP post => ?_) (by decide) he hp
  obtain ⟨o, es, ep, t, ho, hex, hd, Gd', hpm⟩ := hS
  have hl : es.size = N := by
    have := hpm.length_eq
    rw [← hk ks hP]
    simpa using this
  have hfew := Gd'.few
  refine call_len_set ho hex hd Gd'.fits (by (first | lia | omega)) ?_
  rw [hl]
  exact post.int G

theorem Ev.sortedSet {np pos : Pos} {e : Expr} {Pk : List Nat → Prop} {out : List Int} (n : GName S sc "sorted" (.builtin "sorted")) (h : Es S sc ns b d ρ e Pk)
    (hk : ∀ (ks : List Nat) (ns' : List Int), Pk ks → ns'.Perm (ks.map Int.ofNat) → ns'.Pairwise (· ≤ ·) → ns' = out)
    (he : ∀ env, starEach [e] env = [(false, eval e env)] := by intro _; rfl) (hp : ∀ env, (backTo pos (starEach [e] env)).any (·.1) = false := by intro _; rfl) :
    Ev S sc ns b d q ρ (.Call (.Name "sorted" np) [e] [] pos) (.ints out) := by
  refine Ev.callSet n h (fun A s D ks Q R G hS hP post => ?_) (by decide) he hp
  refine sorted_set R.hd hS fun h' tk a o ns' hkp ha hpl hI hpm hpw => ?_
  have hTB : a ∉ S.TB := fun hm => by obtain ⟨ps, e⟩ := tb_data G.tab hm; rw [ha] at e; cases e
  have hpl' : h'.PlainList a o.toList.toArray := by simpa using hpl
  have := hk ks ns' hP hpm hpw
  subst this
  refine post (.ref a) { s with heap := h', toks := tk } [a] (Kp.of_keeps G hkp) (.list hTB hpl' (.ofInts hI)) fun x hx => ?_
  cases hx with
  | head => exact ha
  | tail _ h => cases h

theorem Ev.strFrom {o : Expr} {k : Int} {kk : Nat} {kp sp pos : Pos} {x : Str} {q0 : Md} (h0 : Ev S sc ns b d q0 ρ o (.str x)) (h1 : 0 ≤ k) (h2 : k ≤ x.cps.toList.length) (hsz : x.cps.toList.length ≤ sizeLine) :
    Ev S sc ns b d q ρ (.Subscript o (.Slice (some (.Constant (.int k) kk kp)) none none sp) pos) (.str (Mine.S (x.cps.toList.drop k.toNat))) := by
  intro A base env s rt Q R F hQ
  refine Subscript_ (h0 A base env s rt _ R F fun v s1 fp k1 r1 _ => ?_)
  cases r1 with
  | str x t =>
  refine wpAny_Slice ?_
  show wpAny _ _ (eval (.Constant (.int k) kk kp) env) _ _ _
  refine wpAny_Constant_int ?_
  refine wpAny_pure ?_
  rw [evalPart_none]
  refine wpAny_pure ?_
  refine tail_any (typeIs_str _ x t) PySem.F.slot_str_getitem.lookup (wpAny_getItem_str_slice (l := some (k, _)) (u := none) (st := none) ⟨_, Heap.get?_push_size _ rfl, rfl, rfl⟩ rfl ?_) rfl
  have key : ∀ (t' : Tok) (tk' : Nat) (h' : Heap), (∀ a o', s1.heap.get? a = some o' → h'.get? a = some o') → Q (.str (Mine.S (x.cps.toList.drop k.toNat)) t') { s1 with heap := h', toks := tk' } := fun t' tk' h' hk => hQ _ _ [] (k1.trans (Kp.of_keeps k1.gd hk)) (.str _ _) MdOk.nil
  have hval : StrLaws.sliceText x (some k) none = Mine.S (x.cps.toList.drop k.toNat) := by
    rw [StrLaws.sliceText_from ⟨h1, h2⟩]
    congr 2
    apply List.take_of_length_le
    rw [List.length_drop]; (first | lia | omega)
  unfold StrLaws.sliceText at hval
  unfold sliceMade
  show Made.post (if ((1 : Int) == 1 && (Builtin.Str.strSliceIndices (some k) none 1 x.length).length == x.length) = true then .val (.str x t) else .str ⟨((Builtin.Str.strSliceIndices (some k) none 1 x.length).filterMap (x.cps[·]?)).toArray⟩) Q _
  split at hval
  · rename_i hc
    rw [if_pos hc]
    have := key t (s1.toks + 1) (s1.heap.push { cls := .type "slice", data := .fields #[partValue (some (k, s1.toks)), partValue none, .none] }) fun a o' e => Heap.get?_push_of_some _ e
    rw [← hval] at this
    exact this
  · rename_i hc
    rw [if_neg hc, hval]
    refine ⟨?_, key _ _ _ fun a o' e => Heap.get?_push_of_some _ e⟩
    show (List.drop k.toNat x.cps.toList).toArray.size ≤ _
    rw [List.size_toArray, List.length_drop]; (first | lia | omega)

theorem Ev.listFrom {o : Expr} {k : Int} {kk : Nat} {kp sp pos : Pos} {ps : List PV} {q0 : Md} (h0 : Ev S sc ns b d q0 ρ o (.list ps)) (ha : ps.all (·.atom) = true) (h1 : 0 ≤ k) (hsz : ps.length ≤ sizeLine)
    (ht : ∀ o' r, letTemporaryGo o o' r = pure () := by intro _ _; rfl) :
    Ev S sc ns b d q ρ (.Subscript o (.Slice (some (.Constant (.int k) kk kp)) none none sp) pos) (.list (ps.drop k.toNat)) := by
  intro A base env s rt Q R F hQ
  refine wpAny_Subscript_list_slice (h0 A base env s rt _ R F fun v s1 fp k1 r1 _ => ?_) ht
  cases r1 with
  | @list a vs _ fp g1 g2 g3 =>
  show wpAny _ _ (eval (.Constant (.int k) kk kp) env) _ _ _
  refine wpAny_Constant_int ?_
  refine wpAny_pure ?_
  have hv := g3.allAtoms ha
  subst hv
  refine ⟨a, vs.toArray, some k, none, rfl, g2.isList, by rw [List.size_toArray, g3.length]; exact hsz, .int k _, .none, ?_⟩
  have hpick : slicePick vs.toArray (some k) none none = (vs.drop k.toNat).toArray := by
    have := slicePick_from' vs.toArray k.toNat
    rw [show ((k.toNat : Nat) : Int) = k by (first | lia | omega)] at this
    simpa using this
  rw [hpick]
  have r' : ∀ h', Rps S h' (vs.drop k.toNat) (ps.drop k.toNat) [] := fun h' => by
    have := g3
    clear hpick hQ g1 g2 g3 ha hsz h0
    generalize k.toNat = n
    induction n generalizing vs ps with
    | zero => exact this.mono fun x hx => by cases hx
    | succ n ih =>
      cases vs with
      | nil => cases this; exact .nil
      | cons v vs =>
        cases ps with
        | nil => cases this
        | cons p ps =>
          rw [List.drop_succ_cons, List.drop_succ_cons]
          generalize hfp : ([] : List Addr) = fp at this
          cases this with
          | cons x y =>
            obtain ⟨e1, e2⟩ := List.append_eq_nil_iff.mp hfp.symm
            subst e2; subst e1
            exact ih y
  obtain ⟨H, hH⟩ : ∃ H, H = s1.heap.push { cls := .type "slice", data := .fields #[.int k s1.toks, .none, .none] } := ⟨_, rfl⟩
  have hk : ∀ a o', s1.heap.get? a = some o' → (H.push { cls := .type "list", data := .seq (vs.drop k.toNat).toArray }).get? a = some o' := fun a o' e => by
    rw [hH]; exact Heap.get?_push_of_some _ (Heap.get?_push_of_some _ e)
  have kp2 : Kp S b s1 { s1 with heap := H.push { cls := .type "list", data := .seq (vs.drop k.toNat).toArray }, toks := s1.toks + 1 } := Kp.of_keeps k1.gd hk
  have hsize : H.objs.size = s1.heap.objs.size + 1 := by rw [hH, Heap.size_push]
  have hnone : s1.heap.get? (s1.heap.objs.size + 1) = none := by
    cases e : s1.heap.get? (s1.heap.objs.size + 1) with
    | none => rfl
    | some o' => exact absurd (Heap.lt_size e) (Nat.not_lt.mpr (Nat.le_succ _))
  have hTB : s1.heap.objs.size + 1 ∉ S.TB := fun hm => by obtain ⟨ps, e⟩ := tb_data k1.gd.tab hm; rw [hnone] at e; cases e
  have hpl : (H.push { cls := .type "list", data := .seq (vs.drop k.toNat).toArray }).PlainList (s1.heap.objs.size + 1) (vs.drop k.toNat).toArray := by
    rw [← hsize]; exact ⟨0, Heap.get?_push_size _ rfl⟩
  have := hQ (.ref (s1.heap.objs.size + 1)) _ [s1.heap.objs.size + 1] (k1.trans kp2) (.list hTB hpl (r' _)) (MdOk.ofF F (fun x hx => by
    cases hx with
    | head => exact k1.dead hnone
    | tail _ h => cases h) q)
  rw [hH] at this
  exact this
end
end Mine
open PySem PySem.Calls PyProof.Rows PySem.W
set_option Elab.async false
set_option autoImplicit false
set_option linter.unusedVariables false
set_option maxRecDepth 20000
namespace Mine
section
variable {S : Sys} {sc : Scope} {ns : List Str} {base : Heap} {env : Env} {s s' s0 : Shared} {ρ ρ' : Ro} {rt : Nat → Addr} {b : Bool} {d : Nat} {q : Md} {p p1 p2 p' : PV} {mg mb : Str → Option Value}

theorem It.own {x : Str} {pos : Pos} {ps : List PV} (i : Nat) (hn : ns[i]? = some x) (hρ : ρ[i]? = some (some (.list ps, .frz))) (hd : (x == ("__debug__" : Str)) = false := by decide) :
    ItK (fun h I => ∃ l j, h.IsListIter I l j) S sc ns b d ρ (.Name x pos) ps := by
  intro A base env s rt Q R F hQ
  obtain ⟨v, fp, V⟩ := F.vars i x _ _ hn hρ
  refine Var.name F V hd ?_
  obtain ⟨hv, _, ⟨ob, eob, _⟩, fp', hfp, hnot⟩ := V.own (by intro h; cases h)
  have hr := V.rp
  cases hr with
  | @list a vs _ fpl g1 g2 g3 =>
  cases hv
  have hfl : fpl = fp' := (List.cons.inj hfp).2
  refine wpAny_pyIter_list g2.isList ?_
  have keep := Heap.push_keeps (h := s.heap) { cls := .type "list_iterator", data := .fields #[.ref (rt i), .int 0 0] }
  obtain ⟨n, e⟩ := id g2
  have hne : rt i ≠ s.heap.objs.size := fresh_ne e
  have W := Walks.list (prog := S.prog) (w := S.w) R.hd s.heap.objs.size (rt i) hne vs.toArray
  have hsz : vs.toArray.size = ps.length := by rw [List.size_toArray, g3.length]
  rw [hsz] at W
  have kk : Kp S b s s := Kp.refl F.gd
  refine hQ _ s.heap.objs.size [s.heap.objs.size, rt i] _ _ ⟨Kp.of_keeps (tk := s.toks) F.gd keep, fresh_size _, W, ?_, fun x hx => ?_, fun j h st => ?_, fun j v hv => ?_⟩ fun j h st => ⟨_, _, st.1⟩
  · exact ⟨⟨_, Heap.get?_push_size _ rfl, rfl, rfl⟩, g2.isList.at fun o e => keep _ o e⟩
  · rcases List.mem_cons.mp hx with rfl | hx
    · refine ⟨size_notTB F.gd, fun ho => ?_, _, Heap.get?_push_size _ rfl⟩
      exact MdOk.ofF F (fp := [s.heap.objs.size]) (fun y hy => by cases hy with | head => exact fresh_size _ | tail _ h => cases h) .N _ (.head _) ho
    · rcases List.mem_cons.mp hx with rfl | hx
      · refine ⟨g1, fun ho => ?_, _, keep _ _ e⟩
        rcases ho with ho | ho | ⟨i', p', ei, er⟩
        · exact (V.loc _ (.head _)).1 ho
        · exact (V.loc _ (.head _)).2 ho
        · have hi : i' ≠ i := fun h => by subst h; rw [hρ] at ei; cases ei
          exact V.sep i' p' .mut ei (by intro h; cases h) hi (by rw [er]; exact .head _)
      · cases hx
  · obtain ⟨⟨o, e1, e2, e3⟩, _⟩ := st
    exact ⟨o, _, e1, (by rw [e2]; intro h; cases h), e3, fun x t h => by simp at h⟩
  · obtain ⟨p, f, e1, e2, e3⟩ := g3.get' (i := j) (v := v) (by simpa using hv)
    refine ⟨p, f, e1, e2.mono fun z hz o ez => keep _ _ ez, fun z hz => ?_⟩
    have hzf := e3 z hz
    refine ⟨(V.loc z (.tail _ hzf)).1, (V.loc z (.tail _ hzf)).2, fun j' q' k' ej hk' hr => ?_⟩
    by_cases hj : j' = i
    · subst hj
      rw [hfl] at hzf
      exact hnot (by rw [hr]; exact hzf)
    · exact V.sep j' q' k' ej hk' hj (by rw [hr]; exact .tail _ hzf)

noncomputable def upd3 (t1 t2 t3 : Nat) (ρ : Ro) : PV → Ro
  | .tup [q1, q2, q3] => ((ρ.set t1 (some (q1, .imm))).set t2 (some (q2, .imm))).set t3 (some (q3, .imm))
  | _ => ρ

theorem S1.for3 {x1 x2 x3 : Str} {px1 px2 px3 tp pos : Pos} {tk : Nat} {iter : Expr} {body orelse : List Stmt} {items : List PV} {Φ : Out → Prop} (t1 t2 t3 : Nat) (hn1 : ns[t1]? = some x1) (hn2 : ns[t2]? = some x2) (hn3 : ns[t3]? = some x3)
    (hit : ItK (fun h I => ∃ l j, h.IsListIter I l j) S sc ns b d ρ iter items) (ha : ∀ p ∈ items, ∃ q1 q2 q3, p = .tup [q1, q2, q3] ∧ q1.atom = true ∧ q2.atom = true ∧ q3.atom = true) (J : Nat → Ro) (h0 : Le (J 0) ρ)
    (step : ∀ j p, items[j]? = some p → Sx S sc ns b d (upd3 t1 t2 t3 (J j) p) body (LoopPost Φ J (j + 1)))
    (hend : Sx S sc ns b d (J items.length) orelse Φ) (nd : ns.Nodup) (hk1 : locCell sc x1 = true) (hk2 : locCell sc x2 = true) (hk3 : locCell sc x3 = true)
    (hs : ∀ env x, foldedSetIterable iter env x = pure x := by intro _ _; rfl) :
    S1 S sc ns b d ρ (.For (.Tuple [.Name x1 px1, .Name x2 px2, .Name x3 px3] tk tp) iter body orelse pos) Φ := by
  refine S1.forG (upd3 t1 t2 t3) hit J h0 (fun A base env s rt ρ' I v p f Q R F hκ hp r cl hQ => ?_) step hend hs
  obtain ⟨l, j, hli⟩ := hκ
  obtain ⟨q1, q2, q3, rfl, a1, a2, a3⟩ := ha p hp
  cases r with
  | @tup a vs _ fp g1 g2 g3 =>
  obtain ⟨v1, v2, v3, rfl, ⟨f1, r1⟩, ⟨f2, r2⟩, ⟨f3, r3⟩⟩ := g3.three
  have e1 := r1.atomNil a1
  have e2 := r2.atomNil a2
  have e3 := r3.atomNil a3
  subst e1; subst e2; subst e3
  refine wpAny_letOwnedTupleGo_listiter hli ?_
  refine wpAny_assign_Tuple R.hd g2 rfl rfl fun h' hx => ?_
  have kk : ∀ z o, s.heap.get? z = some o → h'.get? z = some o := fun z o e => hx z o (fresh_ne e) e
  have k2 : Kp S b s { s with heap := h' } := Kp.of_keeps F.gd kk
  show wpAny _ A (do holding [v2, v3] (PySem.assign (.Name x1 px1) env v1); holding [v3] (PySem.assign (.Name x2 px2) env v2); holding [] (PySem.assign (.Name x3 px3) env v3); pure ()) _ _ _
  refine wpAny_bind (wpAny_holding (assign_Name ?_))
  refine store_ok F k2 nd hn1 (locCell_or hk1) (rt' := rt) (k := .imm) ⟨r1.mono fun z hz => (by cases hz), fun _ _ => rfl, fun z hz => (by cases hz), fun _ _ _ _ _ _ hm => (by cases hm), fun hh => absurd rfl hh⟩ fun s3 n3 => ?_
  obtain ⟨st3, rt3, ro3, F3⟩ := n3
  refine wpAny_bind (wpAny_holding (assign_Name ?_))
  refine store_ok (b := b) F3 (Kp.refl F3.gd) nd hn2 (locCell_or hk2) (rt' := rt3) (k := .imm) ⟨r2.mono fun z hz => (by cases hz), fun _ _ => rfl, fun z hz => (by cases hz), fun _ _ _ _ _ _ hm => (by cases hm), fun hh => absurd rfl hh⟩ fun s4 n4 => ?_
  have n34 := NextIs.trans st3 ro3 n4
  obtain ⟨st4, rt4, ro4, F4⟩ := n34
  refine wpAny_bind (wpAny_holding (assign_Name ?_))
  refine store_ok (b := b) F4 (Kp.refl F4.gd) nd hn3 (locCell_or hk3) (rt' := rt4) (k := .imm) ⟨r3.mono fun z hz => (by cases hz), fun _ _ => rfl, fun z hz => (by cases hz), fun _ _ _ _ _ _ hm => (by cases hm), fun hh => absurd rfl hh⟩ fun s5 n5 => ?_
  exact wpAny_pure (hQ s5 (NextIs.trans st4 ro4 n5))

theorem Ev.idxNeg {o i : Expr} {pos : Pos} {ps : List PV} {k : Int} {q1 : Md} (h0 : Ev S sc ns b d q ρ o (.list ps)) (hi : Ev S sc ns b d q1 ρ i (.int k))
    (hk : k < 0) (hk2 : -(ps.length : Int) ≤ k) (hfit : -(2 ^ 63) ≤ k) (hx : ps[(k + ps.length).toNat]? = some p) (hs : ∀ o' i', subscripted i false o' i' = operate [o', i'] (getItem o' i') := by intro _ _; rfl) :
    Ev S sc ns b d q ρ (.Subscript o i pos) p := by
  intro A base env s rt Q R F hQ
  refine Subscript_ (h0 A base env s rt _ R F fun v0 s1 f0 k1 r0 m0 => ?_)
  refine hi A base env s1 rt _ R (F.kp k1) fun v1 s2 f1 k2 r1 _ => ?_
  have r0' := r0.kp k2
  (first | obtain ⟨_, rfl, rfl⟩ := r1.inv | cases r1)
  cases r0' with
  | list g1 g2 g3 =>
    obtain ⟨v, f, e, r, hf⟩ := g3.get hx
    refine tail_any g2.isList.typeIs slot_list_getitem.lookup (wpAny_getItem_list_neg g2.isList hk (by rw [List.size_toArray, g3.length]; exact hk2) hfit (x := v) (by rw [List.size_toArray, g3.length]; simpa using e) ?_) (hs _ _)
    exact hQ v s2 f (k1.trans k2) r (m0.sub fun x hx => .tail _ (hf x hx))
theorem Ev.tidxA {o i : Expr} {pos : Pos} {ps : List PV} {k : Int} {q0 q1 : Md} (h0 : Ev S sc ns b d q0 ρ o (.tup ps)) (hi : Ev S sc ns b d q1 ρ i (.int k))
    (hk : 0 ≤ k) (hfit : k < 2 ^ 63) (hx : ps[k.toNat]? = some p) (ha : p.atom = true) (hs : ∀ o' i', subscripted i false o' i' = operate [o', i'] (getItem o' i') := by intro _ _; rfl) :
    Ev S sc ns b d q ρ (.Subscript o i pos) p := by
  intro A base env s rt Q R F hQ
  refine Subscript_ (h0 A base env s rt _ R F fun v0 s1 f0 k1 r0 m0 => ?_)
  refine hi A base env s1 rt _ R (F.kp k1) fun v1 s2 f1 k2 r1 _ => ?_
  have r0' := r0.kp k2
  (first | obtain ⟨_, rfl, rfl⟩ := r1.inv | cases r1)
  cases r0' with
  | tup g1 g2 g3 =>
    obtain ⟨v, f, e, r, hf⟩ := g3.get hx
    refine tail_any g2.typeIs slot_tuple_getitem.lookup (getItem_tuple g2 (by (first | lia | omega)) hfit (seqIndex_of hk (by rw [List.size_toArray]; have := (List.getElem?_eq_some_iff.mp e).1; (first | lia | omega))) (x := v) (by simpa using e) ?_) (hs _ _)
    have := r.atomNil ha
    subst this
    exact hQ v s2 [] (k1.trans k2) r MdOk.nil
end
end Mine
open PySem PySem.Calls PyProof.Rows PySem.W
set_option Elab.async false
set_option autoImplicit false
set_option linter.unusedVariables false
set_option maxRecDepth 20000
namespace Mine
theorem CallOk.mono {S : Sys} {b : Bool} {d d' : Nat} {fv : Value} {ps : List PV} {p : PV} (h : CallOk S b d fv ps p) (hd : d ≤ d') : CallOk S b d' fv ps p :=
  fun A s vs fp Q R G r hQ => h A s vs fp Q (R.mono hd) G r hQ
noncomputable def endOf (k : Nat) : List Nat := [[10], [13], [13, 10]].getD k []
theorem endOf_is : ∀ k, k < 3 → isEnd (endOf k) := by
  intro k hk
  have : k = 0 ∨ k = 1 ∨ k = 2 := by (first | lia | omega)
  rcases this with h | h | h <;> subst h
  · exact .inl rfl
  · exact .inr (.inl rfl)
  · exact .inr (.inr rfl)
theorem ok_dotted {l : List Nat} (h : okLine l) : okLine (dotted l) := by
  unfold dotted
  split
  · exact ⟨fun h' => by rcases List.mem_cons.mp h' with h' | h'; exact absurd h' (by decide); exact h.1 h', fun h' => by rcases List.mem_cons.mp h' with h' | h'; exact absurd h' (by decide); exact h.2 h'⟩
  · exact h
theorem glue_len (e : List Nat) : ∀ (ls : List (List Nat)) (m : Nat), (∀ l ∈ ls, l.length ≤ m) → (glue e ls).length ≤ ls.length * (m + e.length)
  | [], _, _ => by simp [glue]
  | [l], m, h => by
    have := h l (.head _)
    simp only [glue, List.length_cons, List.length_nil]; (first | lia | omega)
  | l :: l2 :: ls, m, h => by
    have h1 := h l (.head _)
    have h2 := glue_len e (l2 :: ls) m fun x hx => h x (.tail _ hx)
    rw [glue_cons (by simp)]
    simp only [List.length_append]
    have : (l :: l2 :: ls).length * (m + e.length) = (m + e.length) + (l2 :: ls).length * (m + e.length) := by rw [List.length_cons, Nat.add_mul]; (first | lia | omega)
    (first | lia | omega)
theorem glue_short {e : List Nat} {ls : List (List Nat)} {m k : Nat} (h : ∀ l ∈ ls, l.length ≤ m) (hk : ls.length ≤ k) : (glue e ls).length ≤ k * (m + e.length) :=
  Nat.le_trans (glue_len e ls m h) (Nat.mul_le_mul_right _ hk)

/-! rows as strings -/
noncomputable def sgn (x : Bool) : Nat := if x then 46 else 97
noncomputable def rowC (f : List Bool) : List Nat := f.map sgn
noncomputable def strOf (f : List Bool) : Str := Mine.S (rowC f)
theorem rowC_inj : ∀ {f g : List Bool}, rowC f = rowC g → f = g
  | [], [], _ => rfl
  | [], _ :: _, h => by cases h
  | _ :: _, [], h => by cases h
  | a :: f, c :: g, h => by
    have h' := List.cons.inj h
    have hi : ∀ a c : Bool, sgn a = sgn c → a = c := by decide
    rw [hi a c h'.1, rowC_inj h'.2]
theorem S_inj {x y : List Nat} (h : Mine.S x = Mine.S y) : x = y := by
  have h2 := congrArg (fun z : Str => z.cps.toList) h
  exact h2
theorem strOf_inj {f g : List Bool} (h : strOf f = strOf g) : f = g := rowC_inj (S_inj h)
theorem ok_row (f : List Bool) : okLine (rowC f) := by
  constructor <;> (intro h; obtain ⟨x, _, e⟩ := List.mem_map.mp h; cases x <;> cases e)
theorem dotted_row (f : List Bool) : dotted (rowC f) = if isDot f then 46 :: rowC f else rowC f := by
  cases f with
  | nil => rfl
  | cons a f => cases a <;> rfl
theorem dotted_ne (f : List Bool) : (Mine.S (dotted (rowC f)) != strOf f) = isDot f := by
  rw [dotted_row]
  cases hd : isDot f
  · simp [strOf]
  · rw [if_pos rfl]
    refine bne_iff_ne.mpr fun h => ?_
    have h1 := congrArg List.length (S_inj h)
    simp at h1
theorem drop2_row {f : List Bool} (h : isDot f = true) : Mine.S ((Mine.S (dotted (rowC f))).cps.toList.drop 2) = strOf f.tail := by
  cases f with
  | nil => cases h
  | cons a f => cases a with
    | false => cases h
    | true => rfl
theorem drop1_row {f : List Bool} (h : isDot f = false) : Mine.S ((Mine.S (dotted (rowC f))).cps.toList.drop 1) = strOf f.tail := by
  cases f with
  | nil => rfl
  | cons a f => cases a with
    | false => rfl
    | true => cases h
theorem any_strOf (l : List (List Bool)) (f : List Bool) : (l.map strOf).any (· == strOf f) = l.contains f := by
  rw [List.any_map, Bool.eq_iff_iff, List.any_eq_true, List.contains_iff_mem]
  constructor
  · rintro ⟨g, hg, h⟩
    rw [← strOf_inj (eq_of_beq h)]; exact hg
  · intro h
    exact ⟨f, h, by simp⟩
theorem range_filt {α β : Type} (dflt : α) (p : α → Bool) (g : α → β) (l : List α) : ((List.range l.length).filter fun k => p (l.getD k dflt)).map (fun k => g (l.getD k dflt)) = (l.filter p).map g := by
  have e : l = (List.range l.length).map fun k => l.getD k dflt := by
    refine List.ext_getElem (by simp) fun i h1 h2 => ?_
    rw [List.getElem_map, List.getElem_range, List.getD_eq_getElem?_getD, List.getElem?_eq_getElem h1]; rfl
  conv => rhs; rw [e, List.filter_map, List.map_map]
  rfl

noncomputable def num : List Nat → Nat → Nat
  | [], _ => 0
  | o :: os, i => if i < 2 ^ os.length then num os i else 2 ^ o + num os (i - 2 ^ os.length)
theorem num_lo {o : Nat} {os : List Nat} {i : Nat} (h : i < 2 ^ os.length) : num (o :: os) i = num os i := by rw [num, if_pos h]
theorem num_hi (o : Nat) (os : List Nat) (i : Nat) : num (o :: os) (2 ^ os.length + i) = 2 ^ o + num os i := by rw [num, if_neg (by (first | lia | omega)), Nat.add_sub_cancel_left]
noncomputable def keptN (os : List Nat) (F : List (List Bool)) : List Nat := (kept os.length F).map (num os)
theorem keptN_cons (o : Nat) (os : List Nat) (F : List (List Bool)) : keptN (o :: os) F = keptN os (eitherB F) ++ (keptN os (bothB F)).map fun i => 2 ^ o + i := by
  unfold keptN
  rw [List.length_cons, kept, List.map_append, List.map_map, List.map_map]
  congr 1
  · exact List.map_congr_left fun i hi => num_lo (kept_lt _ _ i hi)
  · exact List.map_congr_left fun i hi => num_hi o os i
theorem keptN_nil (os : List Nat) : keptN os [] = [] := by
  have := kept_len os.length []
  unfold keptN
  rw [List.length_eq_zero_iff.mp this]; rfl
theorem either_len (F : List (List Bool)) : (eitherB F).length ≤ F.length ∧ (bothB F).length ≤ F.length := by have := split_len F; (first | lia | omega)
end Mine
open PySem PySem.Calls PyProof.Rows PySem.W
set_option Elab.async false
set_option autoImplicit false
set_option linter.unusedVariables false
set_option maxRecDepth 20000
namespace Mine
section
variable {S : Sys} {sc : Scope} {ns : List Str} {base : Heap} {env : Env} {s s' s0 : Shared} {ρ ρ' : Ro} {rt : Nat → Addr} {b : Bool} {d : Nat} {q : Md} {p p1 p2 p' : PV} {mg mb : Str → Option Value}

noncomputable abbrev keptNs : List Str := ["rows", "order", "end", "sent", "dotted", "bare", "either", "both", "without"]
theorem strOk_row (f : List Bool) : PyData.strOk (strOf f) = true := by
  unfold PyData.strOk strOf Mine.S rowC
  rw [List.all_toArray, List.all_eq_true]
  intro x hx
  obtain ⟨a, _, rfl⟩ := List.mem_map.mp hx
  cases a <;> decide
theorem getD_memB {α : Type} {dflt : α} : ∀ {l : List α} {i : Nat}, i < l.length → l.getD i dflt ∈ l := fun {l i} h => by
  rw [List.getD_eq_getElem?_getD, List.getElem?_eq_getElem h]; exact List.getElem_mem h
theorem get_strF {F : List (List Bool)} {k : Nat} (hk : k < F.length) (g : List Bool → Str) : ((F.map g).map PV.str)[k]? = some (.str (g (F.getD k []))) := by
  rw [List.getElem?_map, List.getElem?_map, List.getElem?_eq_getElem hk, List.getD_eq_getElem?_getD, List.getElem?_eq_getElem hk]; rfl

theorem kept_body {o : Nat} {os : List Nat} {F : List (List Bool)} {en : List Nat} {aQ aK : Addr} {fQ fK : FuncData} (W : S.Ok mg mb) (B : Bn mg) (TQ : TopFn S mg 16 aQ fQ) (TK : TopFn S mg 19 aK fK) (mQ : mg "quotedata" = some (.ref aQ)) (mK : mg "_law_kept" = some (.ref aK))
    (he : isEnd en) (hF : Fam (os.length + 1) F) (h0 : F ≠ []) (hn : F.length ≤ 7) (hm : os.length + 1 ≤ 5) (ho : o < 5)
    (IH : ∀ G, Fam os.length G → G.length ≤ 7 → CallOk S b d (.ref aK) [.strs (G.map strOf), .ints (os.map Int.ofNat), .str (Mine.S en)] (.ints ((keptN os G).map Int.ofNat)))
    (cQ : ∀ ls : List (List Nat), ls ≠ [] → (∀ l ∈ ls, okLine l) → ls.length ≤ 7 → (∀ l ∈ ls, l.length ≤ 5) → CallOk S b d (.ref aQ) [.str (Mine.S (glue en ls))] (.str (Mine.S (glue [13, 10] (ls.map dotted))))) :
    Sx S (stScope (topAt 19)) keptNs b d [some (.strs (F.map strOf), .imm), some (.ints ((o :: os).map Int.ofNat), .imm), some (.str (Mine.S en), .imm), none, none, none, none, none, none] (stBody (topAt 19)) (fun x => x = .ret (.ints ((keptN (o :: os) F).map Int.ofNat))) := by
  refine Sx.cons (S1.if (c := false) (Tr.cast (t := false || false) (Tr.or2 (Tr.cast (Tr.cmp (q1 := .R) (q2 := .R) (Ev.var 0 rfl rfl rfl) (Ev.list Evs.nil) (o_strsNil (fun x hx => ?_))) ?_) (fun _ => Tr.cast (Tr.cmp (q1 := .R) (q2 := .R) (p2 := .ints []) (Ev.var 1 rfl rfl rfl) (Ev.list Evs.nil) o_leq) ?_)) rfl) (fun hc => by cases hc) (fun _ => ?_))
  · obtain ⟨f, _, rfl⟩ := List.mem_map.mp hx
    exact strOk_row f
  · exact decide_eq_false (by simpa using h0)
  · exact decide_eq_false (by simp)
  refine Sx.nil ?_
  have hlen : ∀ f ∈ F, (rowC f).length = os.length + 1 := fun f hf => by unfold rowC; rw [List.length_map]; exact hF.len f hf
  have hen : en.length ≤ 2 := by rcases he with h | h | h <;> subst h <;> decide
  have hd6 : ∀ l ∈ (F.map rowC).map dotted, l.length ≤ 6 := fun l hl => by
    obtain ⟨l', hl', rfl⟩ := List.mem_map.mp hl
    obtain ⟨f, hf, rfl⟩ := List.mem_map.mp hl'
    have := hlen f hf
    unfold dotted; split <;> simp <;> (first | lia | omega)
  have hg3 : (glue [13, 10] ((F.map rowC).map dotted)).length ≤ 7 * (6 + 2) := Nat.le_trans (glue_short hd6 (by rw [List.length_map, List.length_map]; exact hn)) (by simp)
  have hsplit : Txt.split (Mine.S (glue [13, 10] ((F.map rowC).map dotted))) "\r\n" = F.map fun f => Mine.S (dotted (rowC f)) := by
    refine (split_glue (c := 13) (se := [10]) (by decide) _ (by simpa using h0) fun l hl => ?_).trans (by rw [List.map_map, List.map_map]; rfl)
    obtain ⟨l', hl', rfl⟩ := List.mem_map.mp hl
    obtain ⟨f, hf, rfl⟩ := List.mem_map.mp hl'
    exact (ok_dotted (ok_row f)).2
  have hjoin : Txt.join (Mine.S en) (F.map strOf) = Mine.S (glue en (F.map rowC)) := by rw [← join_glue, List.map_map]; rfl
  have hjl : ((F.map strOf).map (·.length)).sum + (F.map strOf).length * (Mine.S en).length ≤ 16777216 := by
    have h1 : ∀ l : List (List Bool), (∀ f ∈ l, (rowC f).length ≤ 5) → ((l.map strOf).map (·.length)).sum ≤ l.length * 5 := by
      intro l
      induction l with
      | nil => intro _; simp
      | cons p l ih =>
        intro h
        have h2 := ih fun x hx => h x (.tail _ hx)
        have h3 := h p (.head _)
        have h4 : (strOf p).length = (rowC p).length := rfl
        simp only [List.map_cons, List.sum_cons, List.length_cons, h4]
        (first | lia | omega)
    have h2 := h1 F fun f hf => by have := hlen f hf; (first | lia | omega)
    have h3 : (Mine.S en).length = en.length := rfl
    rw [List.length_map, h3]
    have h4 : F.length * en.length ≤ 7 * 2 := Nat.mul_le_mul hn hen
    (first | lia | omega)
  refine Sx.cons (S1.assign (p := .strs (F.map fun f => Mine.S (dotted (rowC f)))) 3 rfl
    (Ev.meth (q0 := .R) (q1 := .R) (p1 := .str (Mine.S (glue [13, 10] ((F.map rowC).map dotted)))) PySem.F.plainAttrs_str PySem.F.slot_str_split PySem.F.type_str_split
      (Ev.call (q1 := .R) (.glob W rfl mQ) (TQ.callee W) (Evs.cons (Ev.meth (q0 := .R) (q1 := .R) (p1 := .str (Mine.S en)) PySem.F.plainAttrs_str PySem.F.slot_str_join PySem.F.type_str_join (Ev.var 2 rfl rfl rfl) (fun s v fp r => by (first | obtain ⟨_, rfl, rfl⟩ := r.inv | cases r); exact ⟨rfl, fun a h => by cases h⟩)
        (Evs.cons (p := .strs (F.map strOf)) (Ev.var 0 rfl rfl rfl) Evs.nil) ((c_join hjl).to (congrArg PV.str hjoin))) Evs.nil)
        (cQ (F.map rowC) (by simpa using h0) (fun l hl => by obtain ⟨f, _, rfl⟩ := List.mem_map.mp hl; exact ok_row f) (by rw [List.length_map]; exact hn) (fun l hl => by obtain ⟨f, hf, rfl⟩ := List.mem_map.mp hl; have := hlen f hf; (first | lia | omega))))
      (fun s v fp r => by (first | obtain ⟨_, rfl, rfl⟩ := r.inv | cases r); exact ⟨rfl, fun a h => by cases h⟩) (Evs.cons Ev.cstr Evs.nil) (c_split rfl hsplit ?_ ?_)) ?_ (by decide) (by decide))
  · show (glue [13, 10] ((F.map rowC).map dotted)).toArray.size ≤ _
    rw [List.size_toArray]; simp only [sizeLine]; (first | lia | omega)
  · simp only [List.length_map, sizeLine]; (first | lia | omega)
  have elen : ∀ {ρ : Ro} {ns : List Str} {q : Md} {e : Expr} {np pos : Pos}, Ev S (stScope (topAt 19)) ns b d .R ρ e (.strs (F.map strOf)) → (∀ env, starEach [e] env = (false, eval e env) :: starEach [] env) → (∀ env, (backTo pos (starEach [e] env)).any (·.1) = false) → Ev S (stScope (topAt 19)) ns b d q ρ (.Call (.Name "len" np) [e] [] pos) (.int (F.length : Int)) :=
    fun he h1 h2 => Ev.call (q1 := .R) (.blt W rfl B.len rfl (by decide)) (.blt _) (Evs.cons he Evs.nil h1) ((c_lenList (by simp only [List.length_map]; (first | lia | omega))).to (by simp only [List.length_map])) (by decide) h1 h2
  -- dotted
  refine Sx.cons (S1.assignCompR (n := F.length) (t := fun k => isDot (F.getD k [])) (f := fun k => .str (strOf (F.getD k []).tail)) .imm 4 rfl [3, 0] ⟨by decide, rfl, rfl, rfl, rfl, rfl, rfl⟩
    (It.rangeN (q1 := .R) (.blt W rfl B.range rfl (by decide)) (elen (Ev.var 0 rfl rfl rfl) (by intro _; rfl) (by intro _; rfl)) (by (first | lia | omega))) (by simp only [sizeLine]; (first | lia | omega)) (fun k hk => .one ?_) (fun k hk ht => ?_) (fun k hk _ => rfl) ?_ (by decide) rfl)
  · exact Tr.cast (Tr.cmp (q1 := .R) (q2 := .R) (p1 := .str (Mine.S (dotted (rowC (F.getD k []))))) (p2 := .str (strOf (F.getD k []))) (Ev.idxA (q0 := .R) (q1 := .R) (k := (k : Int)) (Ev.var 1 rfl rfl rfl) (Ev.var 0 rfl rfl rfl) (by (first | lia | omega)) (by (first | lia | omega)) (by rw [Int.toNat_natCast]; exact get_strF hk _) rfl)
      (Ev.idxA (q0 := .R) (q1 := .R) (k := (k : Int)) (Ev.var 2 rfl rfl rfl) (Ev.var 0 rfl rfl rfl) (by (first | lia | omega)) (by (first | lia | omega)) (by rw [Int.toNat_natCast]; exact get_strF hk _) rfl) o_sne) (dotted_ne _)
  · refine Ev.cast (Ev.strFrom (q0 := .R) (k := 2) (Ev.idxA (q0 := .R) (q1 := .R) (k := (k : Int)) (Ev.var 1 rfl rfl rfl) (Ev.var 0 rfl rfl rfl) (by (first | lia | omega)) (by (first | lia | omega)) (by rw [Int.toNat_natCast]; exact get_strF hk _) rfl) (by decide) ?_ ?_) (congrArg PV.str (drop2_row ht))
    · show (2 : Int) ≤ ((dotted (rowC (F.getD k []))).length : Int)
      rw [dotted_row, if_pos ht, List.length_cons, hlen _ (getD_memB hk)]; (first | lia | omega)
    · show (dotted (rowC (F.getD k []))).length ≤ sizeLine
      rw [dotted_row, if_pos ht, List.length_cons, hlen _ (getD_memB hk)]; simp only [sizeLine]; (first | lia | omega)
  rw [range_filt [] isDot (fun f => PV.str (strOf f.tail)) F, show (F.filter isDot).map (fun f => PV.str (strOf f.tail)) = ((dotB F).map strOf).map PV.str from by rw [dotB, List.map_map, List.map_map]; rfl]
  -- bare
  refine Sx.cons (S1.assign (p := .strs ((bareB F).map strOf)) 5 rfl (Ev.cast (Ev.compR (n := F.length) (t := fun k => !isDot (F.getD k [])) (f := fun k => .str (strOf (F.getD k []).tail)) [3, 0] ⟨by decide, rfl, rfl, rfl, rfl, rfl, rfl⟩
    (It.rangeN (q1 := .R) (.blt W rfl B.range rfl (by decide)) (elen (Ev.var 0 rfl rfl rfl) (by intro _; rfl) (by intro _; rfl)) (by (first | lia | omega))) (by simp only [sizeLine]; (first | lia | omega)) (fun k hk => .one ?_) (fun k hk ht => ?_) (fun k hk _ => rfl)) ?_) ?_ (by decide) (by decide) (fun env h => swaps_cell (h _ rfl (by decide))))
  · refine Tr.cast (Tr.cmp (q1 := .R) (q2 := .R) (p1 := .str (Mine.S (dotted (rowC (F.getD k []))))) (p2 := .str (strOf (F.getD k []))) (Ev.idxA (q0 := .R) (q1 := .R) (k := (k : Int)) (Ev.var 1 rfl rfl rfl) (Ev.var 0 rfl rfl rfl) (by (first | lia | omega)) (by (first | lia | omega)) (by rw [Int.toNat_natCast]; exact get_strF hk _) rfl)
      (Ev.idxA (q0 := .R) (q1 := .R) (k := (k : Int)) (Ev.var 2 rfl rfl rfl) (Ev.var 0 rfl rfl rfl) (by (first | lia | omega)) (by (first | lia | omega)) (by rw [Int.toNat_natCast]; exact get_strF hk _) rfl) o_seq) ?_
    rw [← dotted_ne]; simp [bne]
  · have ht' : isDot (F.getD k []) = false := by simpa using ht
    refine Ev.cast (Ev.strFrom (q0 := .R) (k := 1) (Ev.idxA (q0 := .R) (q1 := .R) (k := (k : Int)) (Ev.var 1 rfl rfl rfl) (Ev.var 0 rfl rfl rfl) (by (first | lia | omega)) (by (first | lia | omega)) (by rw [Int.toNat_natCast]; exact get_strF hk _) rfl) (by decide) ?_ ?_) (congrArg PV.str (drop1_row ht'))
    · show (1 : Int) ≤ ((dotted (rowC (F.getD k []))).length : Int)
      rw [dotted_row, ht', if_neg (by decide), hlen _ (getD_memB hk)]; (first | lia | omega)
    · show (dotted (rowC (F.getD k []))).length ≤ sizeLine
      rw [dotted_row, ht', if_neg (by decide), hlen _ (getD_memB hk)]; simp only [sizeLine]; (first | lia | omega)
  · rw [range_filt [] (fun f => !isDot f) (fun f => PV.str (strOf f.tail)) F, bareB, PV.strs, List.map_map, List.map_map]; rfl
  have hbl : (bareB F).length ≤ 7 := by unfold bareB; rw [List.length_map]; exact Nat.le_trans (List.length_filter_le _ _) hn
  have hdl : (dotB F).length ≤ 7 := by unfold dotB; rw [List.length_map]; exact Nat.le_trans (List.length_filter_le _ _) hn
  have ee : PV.list (((bareB F).map strOf).map PV.str ++ (((dotB F).map strOf).filter fun x => !((bareB F).map strOf).any (· == x)).map PV.str) = .strs ((eitherB F).map strOf) := by
    have h1 : ((dotB F).map strOf).filter (fun x => !((bareB F).map strOf).any (· == x)) = ((dotB F).filter fun r => !(bareB F).contains r).map strOf := by
      rw [List.filter_map]
      apply congrArg
      apply List.filter_congr
      intro f _
      show (!_) = !_
      rw [any_strOf]
    rw [h1, eitherB, PV.strs, List.map_append, List.map_append]
  have eb : PV.list ((((dotB F).map strOf).filter fun x => ((bareB F).map strOf).any (· == x)).map PV.str) = .strs ((bothB F).map strOf) := by
    have h1 : ((dotB F).map strOf).filter (fun x => ((bareB F).map strOf).any (· == x)) = ((dotB F).filter fun r => (bareB F).contains r).map strOf := by
      rw [List.filter_map]
      apply congrArg
      apply List.filter_congr
      intro f _
      exact any_strOf _ _
    rw [h1, bothB]
  -- either
  refine Sx.cons (S1.assign (p := .strs ((eitherB F).map strOf)) 6 rfl (Ev.cast (Ev.op2 (q1 := .R) (q2 := .R) (Ev.var 5 rfl rfl rfl)
    (Ev.compS (l := (dotB F).map strOf) (t := fun x => !((bareB F).map strOf).any (· == x)) (f := .str) [5] ⟨by decide, rfl, rfl, rfl, rfl, rfl, rfl⟩ (It.list (Ev.var 4 rfl rfl rfl) (atoms_strs _)) (by simp only [sizeLine, List.length_map]; (first | lia | omega)) (fun x hx => .one (Tr.cmp (q1 := .R) (q2 := .R) (Ev.var 0 rfl rfl rfl) (Ev.var 1 rfl rfl rfl) o_notInStrs)) (fun x hx _ => Ev.var 0 rfl rfl rfl) (fun x hx _ => rfl))
    (o_ladd (atoms_strs _) (atoms_strs _) ?_)) ee) ?_ (by decide) (by decide))
  · have h2 : ((((dotB F).map strOf).filter fun x => !((bareB F).map strOf).any (· == x)).map PV.str).length ≤ 7 := by
      rw [List.length_map]; exact Nat.le_trans (List.length_filter_le _ _) (by rw [List.length_map]; exact hdl)
    rw [List.length_map, List.length_map]
    simp only [sizeLine]; (first | lia | omega)
  -- both
  refine Sx.cons (S1.assignComp (items := ((dotB F).map strOf).map PV.str) (tst := onStr false fun x => ((bareB F).map strOf).any (· == x)) (f := onStr .none .str) .imm 7 rfl [5] ⟨by decide, rfl, rfl, rfl, rfl, rfl, rfl⟩ (It.list (Ev.var 4 rfl rfl rfl) (atoms_strs _)) (atoms_strs _) (by simp only [sizeLine, List.length_map]; (first | lia | omega)) (fun x hx => .one ?_) (fun x hx _ => ?_) (fun x hx _ => ?_) ?_ (by decide) rfl)
  · obtain ⟨y, _, rfl⟩ := List.mem_map.mp hx
    exact Tr.cmp (q1 := .R) (q2 := .R) (Ev.var 0 rfl rfl rfl) (Ev.var 1 rfl rfl rfl) o_inStrs
  · obtain ⟨y, _, rfl⟩ := List.mem_map.mp hx
    exact Ev.var 0 rfl rfl rfl
  · obtain ⟨y, _, rfl⟩ := List.mem_map.mp hx
    rfl
  rw [filt_map PV.str _ _ (fun x => ((bareB F).map strOf).any (· == x)) PV.str (fun _ => rfl) (fun _ => rfl), eb]
  have hel := either_len F
  have kl : ∀ G : List (List Bool), (keptN os G).length = G.length := fun G => by unfold keptN; rw [List.length_map]; exact kept_len _ _
  -- without
  refine Sx.cons (S1.assign (p := .ints ((keptN os (eitherB F)).map Int.ofNat)) 8 rfl (Ev.call (q1 := .R) (.glob W rfl mK) (TK.callee W) (Evs.cons (Ev.var 6 rfl rfl rfl) (Evs.cons (Ev.listFrom (q0 := .R) (k := 1) (Ev.var 1 rfl rfl rfl) (atoms_ints _) (by decide) (by simp only [sizeLine, List.length_map, List.length_cons]; (first | lia | omega))) (Evs.cons (Ev.var 2 rfl rfl rfl) Evs.nil))) (IH _ hF.eitherF (by (first | lia | omega)))) ?_ (by decide) (by decide))
  refine Sx.cons (S1.ret (Ev.cast (Ev.op2 (q1 := .R) (q2 := .R) (Ev.var 8 rfl rfl rfl)
    (Ev.compI (l := (keptN os (bothB F)).map Int.ofNat) (t := fun _ => true) (f := fun i => .int (((2 ^ o : Nat) : Int) + i)) [1] ⟨by decide, rfl, rfl, rfl, rfl, rfl, rfl⟩
      (It.list (Ev.call (q1 := .R) (.glob W rfl mK) (TK.callee W) (Evs.cons (Ev.var 7 rfl rfl rfl) (Evs.cons (Ev.listFrom (q0 := .R) (k := 1) (Ev.var 1 rfl rfl rfl) (atoms_ints _) (by decide) (by simp only [sizeLine, List.length_map, List.length_cons]; (first | lia | omega))) (Evs.cons (Ev.var 2 rfl rfl rfl) Evs.nil))) (IH _ hF.bothF (by (first | lia | omega)))) (atoms_ints _))
      (by rw [List.length_map, kl]; simp only [sizeLine]; (first | lia | omega)) (fun x hx => .nil) (fun x hx _ => ?_) (fun x hx _ => rfl))
    (o_ladd (atoms_ints _) ?_ ?_)) ?_) rfl)
  · exact Ev.op2 (q1 := .R) (q2 := .R) (Ev.op2 (q1 := .R) (q2 := .R) Ev.cint (Ev.idxA (q0 := .R) (q1 := .R) (k := 0) (Ev.var 1 rfl rfl rfl) Ev.cint (by decide) (by decide) rfl rfl) ((o_pow2 (j := o) (by (first | lia | omega))).to (by rw [Int.natCast_pow]; rfl))) (Ev.var 0 rfl rfl rfl) o_add
  · rw [List.all_map, List.all_eq_true]; intro x hx; rfl
  · have h2 : ((((keptN os (bothB F)).map Int.ofNat).filter fun _ => true).map fun i => PV.int (((2 ^ o : Nat) : Int) + i)).length ≤ 7 := by
      rw [List.length_map]; exact Nat.le_trans (List.length_filter_le _ _) (by rw [List.length_map, kl]; (first | lia | omega))
    rw [List.length_map, List.length_map, kl]
    simp only [sizeLine]; (first | lia | omega)
  · rw [List.filter_eq_self.mpr fun _ _ => rfl, keptN_cons, PV.ints, List.map_append, List.map_append, List.map_map, List.map_map, List.map_map, List.map_map]
    rfl
end
end Mine
open PySem PySem.Calls PyProof.Rows PySem.W
set_option Elab.async false
set_option autoImplicit false
set_option linter.unusedVariables false
set_option maxRecDepth 20000
namespace Mine
section
variable {S : Sys} {sc : Scope} {ns : List Str} {base : Heap} {env : Env} {s s' s0 : Shared} {ρ ρ' : Ro} {rt : Nat → Addr} {b : Bool} {d : Nat} {q : Md} {p p1 p2 p' : PV} {mg mb : Str → Option Value}

theorem kept_base {os : List Nat} {F : List (List Bool)} {en : List Nat} (W : S.Ok mg mb) (B : Bn mg) (h0 : F = [] ∨ os = []) (hn : F.length ≤ 7) (hos : os.length ≤ 5) :
    Sx S (stScope (topAt 19)) keptNs b d [some (.strs (F.map strOf), .imm), some (.ints (os.map Int.ofNat), .imm), some (.str (Mine.S en), .imm), none, none, none, none, none, none] (stBody (topAt 19)) (fun x => x = .ret (.ints ((keptN os F).map Int.ofNat))) := by
  have hc : (decide (F.map strOf = []) || decide (os.map Int.ofNat = [])) = true := by
    rcases h0 with h | h <;> subst h <;> simp
  refine Sx.cons (S1.if (c := true) (Tr.cast (t := decide (F.map strOf = []) || decide (os.map Int.ofNat = [])) (Tr.or2 (Tr.cmp (q1 := .R) (q2 := .R) (Ev.var 0 rfl rfl rfl) (Ev.list Evs.nil) (o_strsNil (fun x hx => ?_))) (fun _ => Tr.cmp (q1 := .R) (q2 := .R) (p2 := .ints []) (Ev.var 1 rfl rfl rfl) (Ev.list Evs.nil) o_leq)) hc) (fun _ => ?_) (fun hc => by cases hc))
  · obtain ⟨f, _, rfl⟩ := List.mem_map.mp hx
    exact strOk_row f
  refine Sx.cons (S1.ret (Ev.cast (p := .list (List.replicate ((F.length : Nat) : Int).toNat (.int 0))) (Ev.op2 (q1 := .R) (q2 := .R) (Ev.list (Evs.cons Ev.cint Evs.nil)) (Ev.call (q1 := .R) (.blt W rfl B.len rfl (by decide)) (.blt _) (Evs.cons (Ev.var 0 rfl rfl rfl) Evs.nil) ((c_lenList (by simp only [List.length_map]; (first | lia | omega))).to (p' := .int (F.length : Nat)) (by simp only [List.length_map]))) (o_lmul rfl (by (first | lia | omega)) (by (first | lia | omega)))) ?_) rfl)
  rw [Int.toNat_natCast]
  rcases h0 with h | h <;> subst h
  · rw [keptN_nil]; rfl
  · show _ = PV.ints (((F.map fun _ => 0).map (num [])).map Int.ofNat)
    rw [PV.ints, List.map_map, List.map_map, List.map_map]
    congr 1
    refine List.ext_getElem (by simp) fun i h1 h2 => ?_
    rw [List.getElem_replicate, List.getElem_map]; rfl

theorem kept_ok {en : List Nat} {aQ aK : Addr} {fQ fK : FuncData} (W : S.Ok mg mb) (B : Bn mg) (TQ : TopFn S mg 16 aQ fQ) (TK : TopFn S mg 19 aK fK) (mQ : mg "quotedata" = some (.ref aQ)) (mK : mg "_law_kept" = some (.ref aK)) (he : isEnd en)
    (cQ : ∀ ls : List (List Nat), ls ≠ [] → (∀ l ∈ ls, okLine l) → ls.length ≤ 7 → (∀ l ∈ ls, l.length ≤ 5) → CallOk S b d (.ref aQ) [.str (Mine.S (glue en ls))] (.str (Mine.S (glue [13, 10] (ls.map dotted))))) :
    ∀ os : List Nat, os.length ≤ 5 → (∀ o ∈ os, o < 5) → ∀ F, Fam os.length F → F.length ≤ 7 → CallOk S b (d + os.length + 1) (.ref aK) [.strs (F.map strOf), .ints (os.map Int.ofNat), .str (Mine.S en)] (.ints ((keptN os F).map Int.ofNat))
  | [], hm, ho, F, hF, hn => top_ok (params := ["rows", "order", "end"]) (rest := ["sent", "dotted", "bare", "either", "both", "without"]) W TK (kept_base W B (.inr rfl) hn hm) rfl (by decide) (by decide) (vec3 fun _ _ _ fd => rfl) rfl rfl rfl
  | o :: os, hm, ho, F, hF, hn => by
    by_cases h0 : F = []
    · exact top_ok (params := ["rows", "order", "end"]) (rest := ["sent", "dotted", "bare", "either", "both", "without"]) W TK (kept_base W B (.inl h0) hn hm) rfl (by decide) (by decide) (vec3 fun _ _ _ fd => rfl) rfl rfl rfl
    · have hm' : os.length + 1 ≤ 5 := hm
      exact top_ok (params := ["rows", "order", "end"]) (rest := ["sent", "dotted", "bare", "either", "both", "without"]) W TK
        (kept_body W B TQ TK mQ mK he hF h0 hn hm' (ho o (.head _))
          (fun G hG hl => (kept_ok W B TQ TK mQ mK he cQ os (by (first | lia | omega)) (fun x hx => ho x (.tail _ hx)) G hG hl).mono (by simp only [List.length_cons]; (first | lia | omega)))
          (fun ls h1 h2 h3 h4 => (cQ ls h1 h2 h3 h4).mono (by (first | lia | omega)))) rfl (by decide) (by decide) (vec3 fun _ _ _ fd => rfl) rfl rfl rfl
end
end Mine
open PySem PySem.Calls PyProof.Rows PySem.W
set_option Elab.async false
set_option autoImplicit false
set_option linter.unusedVariables false
set_option maxRecDepth 20000
namespace Mine
section
variable {S : Sys} {sc : Scope} {ns : List Str} {base : Heap} {env : Env} {s s' s0 : Shared} {ρ ρ' : Ro} {rt : Nat → Addr} {b : Bool} {d : Nat} {q : Md} {p p1 p2 p' : PV} {mg mb : Str → Option Value}

theorem not_int (x : Int) : Builtin.bitNot x = -x - 1 := by
  unfold Builtin.bitNot; (first | lia | omega)
theorem Op1.to {f : Value → Sem Value} {x y : Int} (o : Op1 S b d f p1 (.int x)) (e : x = y) : Op1 S b d f p1 (.int y) := e ▸ o

theorem idivP_body {P : Int} {y : Nat} {aI aP : Addr} {fI fP : FuncData} (W : S.Ok mg mb) (TI : TopFn S mg 8 aI fI) (mI : mg "int_divmod" = some (.ref aI)) (TP : TopFn S mg 7 aP fP) (mP : mg "_divmod_pos" = some (.ref aP)) (hy : 0 < y)
    (hP : ∀ x : Nat, (x : Int) = P * y → CallOk S false d (.ref aP) [.int x, .int y] (.tup [.int ((x / y : Nat) : Int), .int ((x % y : Nat) : Int)]))
    (hI : ∀ x : Nat, (x : Int) = -(P * y) - 1 → CallOk S false d (.ref aI) [.int x, .int y] (.tup [.int ((x / y : Nat) : Int), .int ((x % y : Nat) : Int)])) :
    Sx S (stScope (topAt 8)) ["a", "b", "q", "r"] false d [some (.int (P * y), .imm), some (.int y, .imm), none, none] (stBody (topAt 8)) (fun o => o = .ret (.tup [.int P, .int 0])) := by
  refine Sx.cons (S1.if (c := false) (Tr.cast (Tr.cmp (q1 := .R) (q2 := .R) (Ev.var 1 rfl rfl rfl) Ev.cint o_eq) ?_) (fun hc => by cases hc) (fun _ => ?_))
  · exact beq_eq_false_iff_ne.mpr (by (first | lia | omega))
  refine Sx.cons (S1.if (c := false) (Tr.cast (Tr.cmp (q1 := .R) (q2 := .R) (Ev.var 1 rfl rfl rfl) Ev.cint o_lt) ?_) (fun hc => by cases hc) (fun _ => ?_))
  · exact decide_eq_false (by (first | lia | omega))
  by_cases h : P * (y : Int) < 0
  · refine Sx.cons (S1.if (c := true) (Tr.cast (Tr.cmp (q1 := .R) (q2 := .R) (Ev.var 0 rfl rfl rfl) Ev.cint o_lt) (decide_eq_true h)) (fun _ => ?_) (fun hc => by cases hc))
    obtain ⟨m, hm⟩ : ∃ m : Nat, P = -((m : Int) + 1) := by
      have : P < 0 := by
        rcases Int.lt_or_le P 0 with h' | h'
        · exact h'
        · have := Int.mul_nonneg h' (show (0 : Int) ≤ y by (first | lia | omega)); (first | lia | omega)
      exact ⟨(-P - 1).toNat, by (first | lia | omega)⟩
    have e1 : -(P * (y : Int)) - 1 = ((m * y + (y - 1) : Nat) : Int) := by
      rw [hm, Int.neg_mul, Int.add_mul, Int.natCast_add, Int.natCast_mul]; (first | lia | omega)
    obtain ⟨x, hx⟩ : ∃ x, x = m * y + (y - 1) := ⟨_, rfl⟩
    rw [← hx] at e1
    have e2 : x / y = m := by
      rw [hx, Nat.mul_comm, Nat.mul_add_div hy, Nat.div_eq_of_lt (by (first | lia | omega)), Nat.add_zero]
    have e3 : x % y = y - 1 := by
      rw [hx, Nat.mul_comm, Nat.mul_add_mod, Nat.mod_eq_of_lt (by (first | lia | omega))]
    refine Sx.cons (S1.unpack2 (q1 := .R) (p1 := .int (m : Nat)) (p2 := .int ((y - 1 : Nat) : Int)) 2 3 rfl rfl (Ev.call (q1 := .R) (.glob W rfl mI) (TI.callee W) (Evs.cons (p := .int (x : Int)) (Ev.un (q1 := .R) (Ev.var 0 rfl rfl rfl) (Op1.to o_inv ?_)) (Evs.cons (Ev.var 1 rfl rfl rfl) Evs.nil)) ((hI x e1.symm).to ?_)) rfl rfl ?_ (by decide) (by decide) (by decide))
    · rw [not_int, e1]
    · rw [e2, e3]
    · refine Sx.cons (S1.ret (Ev.cast (Ev.tup (Evs.cons (p := .int P) (Ev.un (q1 := .R) (Ev.var 2 rfl rfl rfl) (Op1.to o_inv ?_)) (Evs.cons (p := .int 0) (Ev.op2 (q1 := .R) (q2 := .R) (Ev.var 1 rfl rfl rfl) (Ev.un (q1 := .R) (Ev.var 3 rfl rfl rfl) o_inv) (o_add.to ?_)) Evs.nil)) (by simp [sizeLine])) rfl) rfl)
      · rw [not_int, hm]; (first | lia | omega)
      · rw [not_int]; (first | lia | omega)
  · refine Sx.cons (S1.if (c := false) (Tr.cast (Tr.cmp (q1 := .R) (q2 := .R) (Ev.var 0 rfl rfl rfl) Ev.cint o_lt) (decide_eq_false h)) (fun hc => by cases hc) (fun _ => ?_))
    obtain ⟨m, hm⟩ : ∃ m : Nat, P = (m : Int) := by
      have : 0 ≤ P := by
        rcases Int.lt_or_le P 0 with h' | h'
        · have := Int.mul_neg_of_neg_of_pos h' (show (0 : Int) < y by (first | lia | omega)); (first | lia | omega)
        · exact h'
      exact ⟨P.toNat, by (first | lia | omega)⟩
    have e1 : P * (y : Int) = ((m * y : Nat) : Int) := by rw [hm, Int.natCast_mul]
    have hp := hP (m * y) e1.symm
    rw [Nat.mul_div_cancel _ hy, Nat.mul_mod_left, ← e1, ← hm] at hp
    refine Sx.cons (S1.ret (Ev.call (q1 := .R) (.glob W rfl mP) (TP.callee W) (Evs.cons (Ev.var 0 rfl rfl rfl) (Evs.cons (Ev.var 1 rfl rfl rfl) Evs.nil)) hp) rfl)

theorem idivN_body {P : Int} {y : Nat} {aI : Addr} {fI : FuncData} (W : S.Ok mg mb) (TI : TopFn S mg 8 aI fI) (mI : mg "int_divmod" = some (.ref aI)) (hy : 0 < y)
    (hI : CallOk S false d (.ref aI) [.int (-(P * y)), .int y] (.tup [.int (-P), .int 0])) :
    Sx S (stScope (topAt 8)) ["a", "b", "q", "r"] false d [some (.int (P * y), .imm), some (.int (-(y : Int)), .imm), none, none] (stBody (topAt 8)) (fun o => o = .ret (.tup [.int (-P), .int 0])) := by
  refine Sx.cons (S1.if (c := false) (Tr.cast (Tr.cmp (q1 := .R) (q2 := .R) (Ev.var 1 rfl rfl rfl) Ev.cint o_eq) ?_) (fun hc => by cases hc) (fun _ => ?_))
  · exact beq_eq_false_iff_ne.mpr (by (first | lia | omega))
  refine Sx.cons (S1.if (c := true) (Tr.cast (Tr.cmp (q1 := .R) (q2 := .R) (Ev.var 1 rfl rfl rfl) Ev.cint o_lt) ?_) (fun _ => ?_) (fun hc => by cases hc))
  · exact decide_eq_true (by (first | lia | omega))
  refine Sx.cons (S1.unpack2 (q1 := .R) (p1 := .int (-P)) (p2 := .int 0) 2 3 rfl rfl (Ev.call (q1 := .R) (.glob W rfl mI) (TI.callee W) (Evs.cons (Ev.un (q1 := .R) (Ev.var 0 rfl rfl rfl) o_neg) (Evs.cons (p := .int (y : Int)) (Ev.un (q1 := .R) (Ev.var 1 rfl rfl rfl) (Op1.to o_neg (by (first | lia | omega)))) Evs.nil)) hI) rfl rfl ?_ (by decide) (by decide) (by decide))
  exact Sx.cons (S1.ret (Ev.tup (Evs.cons (Ev.var 2 rfl rfl rfl) (Evs.cons (p := .int 0) (Ev.un (q1 := .R) (Ev.var 3 rfl rfl rfl) (Op1.to o_neg (by (first | lia | omega)))) Evs.nil)) (by simp [sizeLine])) rfl)

theorem idivP_ok {P : Int} {y : Nat} {aI aP : Addr} {fI fP : FuncData} (W : S.Ok mg mb) (TI : TopFn S mg 8 aI fI) (mI : mg "int_divmod" = some (.ref aI)) (TP : TopFn S mg 7 aP fP) (mP : mg "_divmod_pos" = some (.ref aP)) (hy : 0 < y)
    (hP : ∀ x : Nat, (x : Int) = P * y ∨ (x : Int) = -(P * y) - 1 → CallOk S false d (.ref aP) [.int x, .int y] (.tup [.int ((x / y : Nat) : Int), .int ((x % y : Nat) : Int)])) :
    CallOk S false (d + 2) (.ref aI) [.int (P * y), .int y] (.tup [.int P, .int 0]) :=
  top_ok (d := d + 1) (params := ["a", "b"]) (rest := ["q", "r"]) W TI (idivP_body W TI mI TP mP hy (fun x hx => (hP x (.inl hx)).mono (by (first | lia | omega))) (fun x hx => idiv_ok W TI TP mP hy (hP x (.inr hx)))) rfl (by decide) (by decide) (vec2 fun _ _ fd => rfl) rfl rfl rfl
theorem idivU_ok {P β : Int} {y : Nat} {aI aP : Addr} {fI fP : FuncData} (W : S.Ok mg mb) (TI : TopFn S mg 8 aI fI) (mI : mg "int_divmod" = some (.ref aI)) (TP : TopFn S mg 7 aP fP) (mP : mg "_divmod_pos" = some (.ref aP)) (hy : 0 < y) (hβ : Unit1 β)
    (hP : ∀ x : Nat, (x : Int) ≤ (P * y).natAbs → CallOk S false d (.ref aP) [.int x, .int y] (.tup [.int ((x / y : Nat) : Int), .int ((x % y : Nat) : Int)])) :
    CallOk S false (d + 3) (.ref aI) [.int (P * y), .int (β * y)] (.tup [.int (β * P), .int 0]) := by
  rcases hβ with h | h <;> subst h
  · rw [Int.one_mul, Int.one_mul]
    exact (idivP_ok W TI mI TP mP hy (fun x hx => hP x (by (first | lia | omega)))).mono (by (first | lia | omega))
  · rw [Int.neg_mul, Int.one_mul, Int.neg_mul, Int.one_mul]
    have := idivP_ok (P := -P) W TI mI TP mP hy (fun x hx => hP x (by rw [Int.neg_mul] at hx; (first | lia | omega)))
    rw [Int.neg_mul] at this
    exact top_ok (d := d + 2) (params := ["a", "b"]) (rest := ["q", "r"]) W TI (idivN_body W TI mI hy this) rfl (by decide) (by decide) (vec2 fun _ _ fd => rfl) rfl rfl rfl
end
end Mine
open PySem PySem.Calls PyProof.Rows PySem.W
set_option Elab.async false
set_option autoImplicit false
set_option linter.unusedVariables false
set_option maxRecDepth 20000
namespace Mine

theorem pow_or : ∀ o, o < 5 → ∀ x, x < 32 → x.testBit o = false → 2 ^ o + x = 2 ^ o ||| x ∧ 2 ^ o + x < 32 := by decide +kernel
theorem num_ok {os : List Nat} (nd : os.Nodup) (h5 : ∀ o ∈ os, o < 5) : ∀ i, num os i < 32 ∧ ∀ q, (num os i).testBit q = true → q ∈ os := by
  induction os with
  | nil => exact fun i => ⟨by rw [num]; decide, fun q h => by simp [num] at h⟩
  | cons o os ih =>
    have hp := List.nodup_cons.mp nd
    have ih' := ih hp.2 fun x hx => h5 x (.tail _ hx)
    intro i
    by_cases h : i < 2 ^ os.length
    · rw [num_lo h]
      exact ⟨(ih' i).1, fun q hq => .tail _ ((ih' i).2 q hq)⟩
    · obtain ⟨j, rfl⟩ : ∃ j, i = 2 ^ os.length + j := ⟨i - 2 ^ os.length, by (first | lia | omega)⟩
      rw [num_hi]
      have hb : (num os j).testBit o = false := by
        cases e : (num os j).testBit o with
        | false => rfl
        | true => exact absurd ((ih' j).2 o e) hp.1
      obtain ⟨h1, h2⟩ := pow_or o (h5 o (.head _)) _ (ih' j).1 hb
      refine ⟨h2, fun q hq => ?_⟩
      rw [h1, Nat.testBit_or, Nat.testBit_two_pow] at hq
      rcases Bool.or_eq_true _ _ ▸ hq with h' | h'
      · rw [← of_decide_eq_true h']; exact .head _
      · exact .tail _ ((ih' j).2 q h')
theorem sub_iff (a m : Nat) : a &&& m = a ↔ ∀ q, a.testBit q = true → m.testBit q = true := by
  constructor
  · intro h q hq
    rw [← h, Nat.testBit_and, Bool.and_eq_true] at hq
    exact hq.2
  · intro h
    apply Nat.eq_of_testBit_eq
    intro q
    rw [Nat.testBit_and]
    cases e : a.testBit q
    · rfl
    · rw [h q e]; rfl
noncomputable def sgns (os : List Nat) (m : Nat) : List Bool := os.map fun o => m.testBit o
theorem num_sub {os : List Nat} (nd : os.Nodup) (h5 : ∀ o ∈ os, o < 5) (m : Nat) : ∀ i, (decide (num os i &&& m = num os i)) = inc os.length i (sgns os m) := by
  induction os with
  | nil => intro i; rw [num, Nat.zero_and]; simp [inc]
  | cons o os ih =>
    have hp := List.nodup_cons.mp nd
    have ih' := ih hp.2 fun x hx => h5 x (.tail _ hx)
    intro i
    show _ = inc (os.length + 1) i (m.testBit o :: sgns os m)
    by_cases h : i < 2 ^ os.length
    · rw [num_lo h, inc_lo h, ih']
    · obtain ⟨j, rfl⟩ : ∃ j, i = 2 ^ os.length + j := ⟨i - 2 ^ os.length, by (first | lia | omega)⟩
      rw [num_hi, inc_hi, ← ih']
      have hk := num_ok hp.2 (fun x hx => h5 x (.tail _ hx)) j
      have hb : (num os j).testBit o = false := by
        cases e : (num os j).testBit o with
        | false => rfl
        | true => exact absurd (hk.2 o e) hp.1
      obtain ⟨h1, h2⟩ := pow_or o (h5 o (.head _)) _ hk.1 hb
      rw [h1, Bool.eq_iff_iff, Bool.and_eq_true, decide_eq_true_eq, decide_eq_true_eq, sub_iff, sub_iff]
      constructor
      · intro h'
        exact ⟨h' o (by rw [Nat.testBit_or, Nat.testBit_two_pow]; simp), fun q hq => h' q (by rw [Nat.testBit_or, hq]; simp)⟩
      · rintro ⟨g1, g2⟩ q hq
        rw [Nat.testBit_or, Nat.testBit_two_pow] at hq
        rcases Bool.or_eq_true _ _ ▸ hq with h' | h'
        · rw [← of_decide_eq_true h']; exact g1
        · exact g2 q h'
theorem num_sum : ∀ (os : List Nat) (i : Nat), i < 2 ^ os.length → (((List.range os.length).filter fun k => i.testBit (os.length - 1 - k)).map fun k => 2 ^ os.getD k 0).sum = num os i
  | [], i, _ => rfl
  | o :: os, i, h => by
    rw [List.length_cons, List.range_succ_eq_map, List.filter_cons]
    have e1 : (List.map Nat.succ (List.range os.length)).filter (fun k => i.testBit (os.length + 1 - 1 - k)) = ((List.range os.length).filter fun k => i.testBit (os.length - 1 - k)).map Nat.succ := by
      rw [List.filter_map]
      congr 1
      apply List.filter_congr
      intro k hk
      have := List.mem_range.mp hk
      show i.testBit (os.length + 1 - 1 - (k + 1)) = _
      rw [show os.length + 1 - 1 - (k + 1) = os.length - 1 - k from by (first | lia | omega)]
    rw [e1]
    have e2 : ∀ l : List Nat, (l.map Nat.succ).map (fun k => 2 ^ (o :: os).getD k 0) = l.map fun k => 2 ^ os.getD k 0 := fun l => by rw [List.map_map]; rfl
    rw [show os.length + 1 - 1 - 0 = os.length from by (first | lia | omega)]
    rw [List.length_cons, Nat.pow_succ] at h
    by_cases hl : i < 2 ^ os.length
    · rw [Nat.testBit_lt_two_pow hl, if_neg (by decide), e2, num_lo hl, num_sum os i hl]
    · obtain ⟨j, rfl⟩ : ∃ j, i = 2 ^ os.length + j := ⟨i - 2 ^ os.length, by (first | lia | omega)⟩
      have hj : j < 2 ^ os.length := by (first | lia | omega)
      rw [Nat.testBit_two_pow_add_eq, Nat.testBit_lt_two_pow hj, if_pos (by decide), List.map_cons, e2, List.sum_cons, num_hi, ← num_sum os j hj]
      congr 1
      congr 2
      apply List.filter_congr
      intro k hk
      have := List.mem_range.mp hk
      exact Nat.testBit_two_pow_add_gt (by (first | lia | omega)) j
theorem bit_even (s i : Nat) : (Builtin.bitAnd (((s : Int)).fdiv (2 ^ i)) 1 == 0) = decide (s / 2 ^ i % 2 = 0) := by
  have e : (s : Int).fdiv (2 ^ i) = ((s / 2 ^ i : Nat) : Int) := by
    rw [Int.fdiv_eq_ediv_of_nonneg _ (Int.le_of_lt (Int.pow_pos (by decide))), Int.natCast_ediv, Int.natCast_pow]; rfl
  rw [e, show (1 : Int) = ((1 : Nat) : Int) from rfl, bitAnd_nat, Nat.and_one_is_mod]
  generalize s / 2 ^ i % 2 = z
  by_cases h : z = 0
  · subst h; rfl
  · rw [decide_eq_false h]
    exact beq_eq_false_iff_ne.mpr (by (first | lia | omega))
theorem andBit (x p : Nat) : (Builtin.bitAnd ((x : Int).fdiv (2 ^ p)) 1 != 0) = x.testBit p := by
  have h := bit_even x p
  rw [bne, h, Nat.testBit_eq_decide_div_mod_eq]
  have : x / 2 ^ p % 2 = 0 ∨ x / 2 ^ p % 2 = 1 := by (first | lia | omega)
  rcases this with h | h <;> rw [h] <;> rfl
theorem sum_bits (f : Nat → Bool) : ∀ n, (((List.range n).filter f).map fun j => (2 : Int) ^ j).sum = (bitsN f n : Int)
  | 0 => rfl
  | n + 1 => by
    rw [List.range_succ, List.filter_append, List.map_append, List.sum_append, sum_bits f n, bitsN]
    cases hf : f n <;> simp [hf]
theorem redBy_nat : ∀ (bs : List Nat) (x : Nat), redBy (bs.map Int.ofNat) (x : Int) = (redB bs x : Int)
  | [], _ => rfl
  | o :: bs, x => by
    show redBy (bs.map Int.ofNat) (redStep (x : Int) (o : Int)) = (redB bs (redN x o) : Int)
    rw [← redBy_nat bs]
    congr 1
    unfold redStep redN
    rw [bitXor_nat]
    (first | lia | omega)
end Mine
open PySem PySem.Calls PyProof.Rows PySem.W
set_option Elab.async false
set_option autoImplicit false
set_option linter.unusedVariables false
set_option maxRecDepth 20000
namespace Mine
section
variable {S : Sys} {sc : Scope} {ns : List Str} {base : Heap} {env : Env} {s s' s0 : Shared} {ρ ρ' : Ro} {rt : Nat → Addr} {b : Bool} {d : Nat} {q : Md} {p p1 p2 p' : PV} {mg mb : Str → Option Value}

noncomputable def foundTo (os : List Nat) (F : List (List Bool)) (j : Nat) : List Nat := ((List.range j).filter fun i => decide (redB (bas (rowF os.length F) i) (rowF os.length F i) ≠ 0)).map (num os)
theorem foundTo_succ (os : List Nat) (F : List (List Bool)) (j : Nat) : foundTo os F (j + 1) = foundTo os F j ++ if redB (bas (rowF os.length F) j) (rowF os.length F j) ≠ 0 then [num os j] else [] := by
  unfold foundTo
  rw [List.range_succ, List.filter_append, List.map_append]
  congr 1
  rw [List.filter_cons, List.filter_nil]
  by_cases h : redB (bas (rowF os.length F) j) (rowF os.length F j) ≠ 0
  · rw [if_pos (decide_eq_true h), if_pos h]; rfl
  · rw [if_neg (by simpa using h), if_neg h]; rfl
theorem foundTo_len (os : List Nat) (F : List (List Bool)) (j : Nat) : (foundTo os F j).length ≤ j := by
  unfold foundTo
  rw [List.length_map]
  exact Nat.le_trans (List.length_filter_le _ _) (by simp)
theorem bas_len (row : Nat → Nat) : ∀ n, (bas row n).length ≤ n
  | 0 => Nat.le_refl _
  | n + 1 => by
    have := bas_len row n
    rw [bas, rkStep]
    split
    · rw [List.length_append, List.length_cons, List.length_nil]; (first | lia | omega)
    · (first | lia | omega)

noncomputable abbrev earlyNs : List Str := ["members", "order", "basis", "found", "code", "chosen", "left", "one"]

theorem early_body {os ms : List Nat} {F : List (List Bool)} (W : S.Ok mg mb) (B : Bn mg) (hl : os.length = 5) (nd : os.Nodup) (h5 : ∀ o ∈ os, o < 5) (hm : ms.length ≤ 7) (hF : F = ms.map (sgns os)) :
    Sx S (stScope (topAt 20)) earlyNs b d [some (.ints (ms.map Int.ofNat), .imm), some (.ints (os.map Int.ofNat), .imm), none, none, none, none, none, none] (stBody (topAt 20)) (fun o => o = .ret (.ints ((foundTo os F 32).map Int.ofNat))) := by
  obtain ⟨row, hrow⟩ : ∃ row, row = rowF os.length F := ⟨_, rfl⟩
  have hFl : F.length = ms.length := by rw [hF, List.length_map]
  refine Sx.cons (S1.assignOwn (p := .list []) 2 rfl (Ev.list Evs.nil) rfl ?_ (by decide) (by decide))
  refine Sx.cons (S1.assignOwn (p := .list []) 3 rfl (Ev.list Evs.nil) rfl ?_ (by decide) (by decide))
  refine Sx.cons (S1.for 4 rfl (It.rangeN (n := 32) (q1 := .R) (.blt W rfl B.range rfl (by decide)) Ev.cint (by decide))
    (fun j => [some (.ints (ms.map Int.ofNat), .imm), some (.ints (os.map Int.ofNat), .imm), some (.ints ((bas row j).map Int.ofNat), .mut), some (.ints ((foundTo os F j).map Int.ofNat), .mut), none, none, none, none]) Le.refl ?_ ?_ (by decide) (by decide))
  · intro j p hj
    obtain ⟨hj', rfl⟩ := range_get hj
    clear hj
    obtain ⟨ba, hba⟩ : ∃ ba, ba = bas row j := ⟨_, rfl⟩
    obtain ⟨ch, hch⟩ : ∃ ch, ch = num os j := ⟨_, rfl⟩
    have hbl : ba.length ≤ 32 := by rw [hba]; have := bas_len row j; (first | lia | omega)
    have hnext : bas row (j + 1) = rkStep ba (row j) := by rw [hba]; rfl
    have hfl : (foundTo os F j).length ≤ 32 := by have := foundTo_len os F j; (first | lia | omega)
    simp only [← hba]
    -- chosen
    refine Sx.cons (S1.assign (p := .int (ch : Int)) 5 rfl (Ev.call (q1 := .R) (ps := [.ints (((List.range 5).filter fun k => j.testBit (4 - k)).map fun k => ((2 ^ os.getD k 0 : Nat) : Int))]) (.blt W rfl B.sum rfl (by decide)) (.blt _) (Evs.cons (Ev.cast (Ev.compR (n := 5) (t := fun k => j.testBit (4 - k)) (f := fun k => .int ((2 ^ os.getD k 0 : Nat) : Int)) [4, 1] ⟨by decide, rfl, rfl, rfl, rfl, rfl, rfl⟩ (It.rangeN (q1 := .R) (.blt W rfl B.range rfl (by decide)) Ev.cint (by decide)) (by simp only [sizeLine]; (first | lia | omega)) (fun k hk => .one ?_) (fun k hk _ => ?_) (fun k _ _ => rfl)) ?_) Evs.nil) (c_sum.to ?_)) ?_ (by decide) (by decide))
    · refine Tr.cast (Tr.int (q1 := .R) (Ev.op2 (q1 := .R) (q2 := .R) (Ev.op2 (q1 := .R) (q2 := .R) (Ev.var 1 rfl rfl rfl) (Ev.op2 (q1 := .R) (q2 := .R) (p := .int ((4 - k : Nat) : Int)) Ev.cint (Ev.var 0 rfl rfl rfl) (o_sub.to (by (first | lia | omega)))) ((o_shr (by (first | lia | omega))).to (by rw [Int.toNat_natCast]))) Ev.cint o_and)) (andBit j (4 - k))
    · have hk' : k < os.length := by (first | lia | omega)
      have h5' : os.getD k 0 < 5 := h5 _ (by rw [List.getD_eq_getElem?_getD, List.getElem?_eq_getElem hk']; exact List.getElem_mem hk')
      exact Ev.op2 (q1 := .R) (q2 := .R) Ev.cint (Ev.idxA (q0 := .R) (q1 := .R) (k := (k : Int)) (p := .int ((os.getD k 0 : Nat) : Int)) (Ev.var 2 rfl rfl rfl) (Ev.var 0 rfl rfl rfl) (by (first | lia | omega)) (by (first | lia | omega)) (by rw [Int.toNat_natCast, List.getElem?_map, List.getElem?_map, List.getElem?_eq_getElem hk', List.getD_eq_getElem?_getD, List.getElem?_eq_getElem hk']; rfl) rfl) ((o_pow2 (by (first | lia | omega))).to (by rw [Int.natCast_pow]; rfl))
    · rw [PV.ints, List.map_map]; rfl
    · have e := num_sum os j (by rw [hl]; exact hj')
      rw [hl] at e
      rw [hch, ← e]
      have : ∀ l : List Nat, (l.map fun k => ((2 ^ os.getD k 0 : Nat) : Int)).sum = (((l.map fun k => 2 ^ os.getD k 0).sum : Nat) : Int) := by
        intro l
        induction l with
        | nil => rfl
        | cons x l ih => rw [List.map_cons, List.map_cons, List.sum_cons, List.sum_cons, ih, Int.natCast_add]
      rw [this]
    -- left
    refine Sx.cons (S1.assign (p := .int (row j : Int)) 6 rfl (Ev.call (q1 := .R) (ps := [.ints (((List.range ms.length).filter fun t => inc os.length j (F.getD t [])).map fun t => (2 : Int) ^ t)]) (.blt W rfl B.sum rfl (by decide)) (.blt _) (Evs.cons (Ev.cast (Ev.compR (n := ms.length) (t := fun t => inc os.length j (F.getD t [])) (f := fun t => .int ((2 : Int) ^ t)) [5, 0] ⟨by decide, rfl, rfl, rfl, rfl, rfl, rfl⟩
      (It.rangeN (q1 := .R) (.blt W rfl B.range rfl (by decide)) (Ev.call (q1 := .R) (.blt W rfl B.len rfl (by decide)) (.blt _) (Evs.cons (Ev.var 0 rfl rfl rfl) Evs.nil) ((c_lenList (by simp only [List.length_map]; (first | lia | omega))).to (by simp only [List.length_map]))) (by (first | lia | omega))) (by simp only [sizeLine]; (first | lia | omega)) (fun k hk => .one ?_) (fun k hk _ => ?_) (fun k _ _ => rfl)) ?_) Evs.nil) (c_sum.to ?_)) ?_ (by decide) (by decide))
    · have hk' : k < F.length := by (first | lia | omega)
      refine Tr.cast (Tr.cmp (q1 := .R) (q2 := .R) (p1 := .int ((ch &&& ms.getD k 0 : Nat) : Int)) (p2 := .int (ch : Int)) (Ev.op2 (q1 := .R) (q2 := .R) (Ev.var 1 rfl rfl rfl) (Ev.idxA (q0 := .R) (q1 := .R) (k := (k : Int)) (p := .int ((ms.getD k 0 : Nat) : Int)) (Ev.var 2 rfl rfl rfl) (Ev.var 0 rfl rfl rfl) (by (first | lia | omega)) (by (first | lia | omega)) (by rw [Int.toNat_natCast, List.getElem?_map, List.getElem?_map, List.getElem?_eq_getElem hk, List.getD_eq_getElem?_getD, List.getElem?_eq_getElem hk]; rfl) rfl) (o_and.to (bitAnd_nat _ _))) (Ev.var 1 rfl rfl rfl) o_eq) ?_
      rw [hF, List.getD_eq_getElem?_getD (l := ms.map (sgns os)), List.getElem?_map, List.getElem?_eq_getElem hk, List.getD_eq_getElem?_getD, List.getElem?_eq_getElem hk]
      show _ = inc os.length j (sgns os ms[k])
      rw [← num_sub nd h5, hch, Option.getD_some, Bool.eq_iff_iff, beq_iff_eq, decide_eq_true_eq]
      (first | lia | omega)
    · exact Ev.op2 (q1 := .R) (q2 := .R) Ev.cint (Ev.var 0 rfl rfl rfl) (o_pow2 (by (first | lia | omega)))
    · rw [PV.ints, List.map_map]; rfl
    · rw [sum_bits, hrow, rowF, hFl]
    obtain ⟨rw0, hrw⟩ : ∃ x, x = row j := ⟨_, rfl⟩
    rw [← hrw] at hnext ⊢
    refine Sx.cons (S1.frozen 2 rfl (S1.for 7 rfl (It.list (Ev.var 2 rfl rfl rfl) (atoms_ints _))
      (fun i => [some (.ints (ms.map Int.ofNat), .imm), some (.ints (os.map Int.ofNat), .imm), some (.ints (ba.map Int.ofNat), .frz), some (.ints ((foundTo os F j).map Int.ofNat), .mut), some (.int (j : Int), .imm), some (.int (ch : Int), .imm), some (.int (redB (ba.take i) rw0 : Int), .imm), none]) Le.refl ?_ ?_ (by decide) (by decide)))
    · intro i p hi
      obtain ⟨hi', rfl⟩ := items_ints hi
      clear hi
      rw [List.length_map] at hi'
      refine Sx.cons (S1.assign (p := .int (redB (ba.take (i + 1)) rw0 : Int)) 6 rfl (Ev.call (q1 := .R) (.blt W rfl B.min rfl (by decide)) (.blt _) (Evs.cons (Ev.var 6 rfl rfl rfl) (Evs.cons (Ev.op2 (q1 := .R) (q2 := .R) (Ev.var 6 rfl rfl rfl) (Ev.var 7 rfl rfl rfl) o_xor) Evs.nil)) (c_min.to ?_)) ?_ (by decide) (by decide))
      · rw [← redBy_nat, ← redBy_nat, take_snoc hi', List.map_append]
        simp only [redBy, redStep, List.foldl_append, List.map_cons, List.map_nil, List.foldl_cons, List.foldl_nil, List.getElem_map]
      · refine Sx.nil ?_
        exact (Le.same (Le.same (Le.same (Le.same (Le.same (Le.same (Le.same (Le.drop Le.nil))))))))
    · refine Sx.nil ⟨_, rfl, ?_⟩
      have e1 : ((ba.map Int.ofNat).map PV.int).length = ba.length := by simp
      show Sx S _ _ b d [some (.ints (ms.map Int.ofNat), .imm), some (.ints (os.map Int.ofNat), .imm), some (.ints (ba.map Int.ofNat), .mut), some (.ints ((foundTo os F j).map Int.ofNat), .mut), some (.int (j : Int), .imm), some (.int (ch : Int), .imm), some (.int (redB (ba.take ((ba.map Int.ofNat).map PV.int).length) rw0 : Int), .imm), none] _ _
      rw [e1, List.take_length]
      have hf := foundTo_succ os F j
      rw [← hrow, ← hba, ← hrw, ← hch] at hf
      refine Sx.cons (S1.if (Tr.int (q1 := .R) (Ev.var 6 rfl rfl rfl)) (fun hc => ?_) (fun hc => ?_))
      · have hc' : redB ba rw0 ≠ 0 := by simpa using hc
        have e2 : rkStep ba rw0 = ba ++ [redB ba rw0] := by unfold rkStep; rw [if_pos hc']
        rw [if_pos hc'] at hf
        refine Sx.cons (S1.append (p := .int (redB ba rw0 : Int)) 2 rfl rfl (Ev.var 6 rfl rfl rfl) (flat_atoms (by rw [List.all_append, atoms_ints]; rfl)) (by simp only [List.length_map, sizeLine]; (first | lia | omega)) ?_)
        refine Sx.cons (S1.append (p := .int (ch : Int)) 3 rfl rfl (Ev.var 5 rfl rfl rfl) (flat_atoms (by rw [List.all_append, atoms_ints]; rfl)) (by simp only [List.length_map, sizeLine]; (first | lia | omega)) ?_)
        refine Sx.nil (Sx.nil ?_)
        show Le [some (.ints (ms.map Int.ofNat), .imm), some (.ints (os.map Int.ofNat), .imm), some (.ints ((bas row (j + 1)).map Int.ofNat), .mut), some (.ints ((foundTo os F (j + 1)).map Int.ofNat), .mut), none, none, none, none] _
        rw [hnext, e2, hf]
        have e3 : PV.ints ((ba ++ [redB ba rw0]).map Int.ofNat) = .list ((ba.map Int.ofNat).map .int ++ [.int (redB ba rw0 : Int)]) := by simp [PV.ints]
        have e4 : PV.ints ((foundTo os F j ++ [ch]).map Int.ofNat) = .list (((foundTo os F j).map Int.ofNat).map .int ++ [.int (ch : Int)]) := by simp [PV.ints]
        rw [e3, e4]
        exact (Le.same (Le.same (Le.same (Le.same (Le.drop (Le.drop (Le.drop (Le.drop Le.nil))))))))
      · have hc' : redB ba rw0 = 0 := by simpa using hc
        have e2 : rkStep ba rw0 = ba := by unfold rkStep; rw [if_neg (by simpa using hc')]
        rw [if_neg (by simpa using hc'), List.append_nil] at hf
        refine Sx.nil (Sx.nil ?_)
        show Le [some (.ints (ms.map Int.ofNat), .imm), some (.ints (os.map Int.ofNat), .imm), some (.ints ((bas row (j + 1)).map Int.ofNat), .mut), some (.ints ((foundTo os F (j + 1)).map Int.ofNat), .mut), none, none, none, none] _
        rw [hnext, e2, hf]
        exact (Le.same (Le.same (Le.same (Le.same (Le.drop (Le.drop (Le.drop (Le.drop Le.nil))))))))
  · refine Sx.nil ?_
    have e1 : ((List.range 32).map fun (i : Nat) => PV.int (i : Int)).length = 32 := by simp
    rw [e1]
    exact Sx.cons (S1.retOwn 3 rfl rfl (by intro h; cases h) rfl)

theorem earlyN_ok {os ms : List Nat} {aE : Addr} {fE : FuncData} (W : S.Ok mg mb) (B : Bn mg) (T : TopFn S mg 20 aE fE) (hl : os.length = 5) (nd : os.Nodup) (h5 : ∀ o ∈ os, o < 5) (hm : ms.length ≤ 7) (hF : Fam 5 (ms.map (sgns os))) :
    CallOk S b (d + 1) (.ref aE) [.ints (ms.map Int.ofNat), .ints (os.map Int.ofNat)] (.ints ((keptN os (ms.map (sgns os))).map Int.ofNat)) := by
  have e : keptN os (ms.map (sgns os)) = foundTo os (ms.map (sgns os)) 32 := by
    unfold keptN foundTo
    rw [hl, kept_early 5 _ hF (by rw [List.length_map]; exact hm)]; rfl
  rw [e]
  exact top_ok (params := ["members", "order"]) (rest := ["basis", "found", "code", "chosen", "left", "one"]) W T (early_body W B hl nd h5 hm rfl) rfl (by decide) (by decide) (vec2 fun _ _ fd => rfl) rfl rfl rfl
end
end Mine
open PySem PySem.Calls PyProof.Rows PySem.W
set_option Elab.async false
set_option autoImplicit false
set_option linter.unusedVariables false
set_option maxRecDepth 20000
namespace Mine

theorem digs_nsum (w : Nat) : ∀ ds : List Nat, ds ≠ [] → (∀ d ∈ ds, d < 2 ^ w) → digs w ds.length (nsum w ds) = ds.map Int.ofNat
  | [], h, _ => absurd rfl h
  | [d], _, _ => by simp [digs, nsum]
  | d :: e :: ds, _, h => by
    have hd := h d (.head _)
    have ih := digs_nsum w (e :: ds) (by simp) fun x hx => h x (.tail _ hx)
    show digs w (ds.length + 2) (d + 2 ^ w * nsum w (e :: ds)) = _
    rw [digs, Nat.add_mul_mod_self_left, Nat.mod_eq_of_lt hd, Nat.add_mul_div_left _ _ (Nat.two_pow_pos w), Nat.div_eq_of_lt hd, Nat.zero_add]
    have : digs w (ds.length + 1) (nsum w (e :: ds)) = (e :: ds).map Int.ofNat := ih
    rw [this]; rfl
theorem nsum_append (w : Nat) : ∀ a c : List Nat, nsum w (a ++ c) = nsum w a + 2 ^ (w * a.length) * nsum w c
  | [], c => by simp [nsum]
  | d :: a, c => by
    rw [List.cons_append, nsum, nsum_append w a c, nsum, List.length_cons, Nat.mul_add w, Nat.mul_one, Nat.pow_add, Nat.mul_add, ← Nat.mul_assoc, Nat.mul_comm (2 ^ w) (2 ^ (w * a.length))]
    (first | lia | omega)
theorem nsum_ge (w : Nat) {ds : List Nat} (h0 : ds ≠ []) (h : ∀ d ∈ ds, 1 ≤ d) : 2 ^ (w * (ds.length - 1)) ≤ nsum w ds := by
  obtain ⟨a, z, rfl⟩ : ∃ a z, ds = a ++ [z] := ⟨ds.dropLast, ds.getLast h0, (List.dropLast_concat_getLast h0).symm⟩
  have hz := h z (by simp)
  rw [nsum_append, List.length_append]
  simp only [List.length_cons, List.length_nil, Nat.zero_add, Nat.add_sub_cancel, nsum, Nat.mul_zero, Nat.add_zero]
  have : 2 ^ (w * a.length) * 1 ≤ 2 ^ (w * a.length) * z := Nat.mul_le_mul_left _ hz
  (first | lia | omega)
theorem bits_ge {x B : Nat} (h : 2 ^ B ≤ x) : B + 1 ≤ nbits x := by
  have h1 := lt_bits x
  have h2 : 2 ^ B < 2 ^ nbits x := Nat.lt_of_le_of_lt h h1
  exact (Nat.pow_lt_pow_iff_right (by decide)).mp h2
theorem i2d_nsum {w : Nat} (hw : 0 < w) {ds : List Nat} (h0 : ds ≠ []) (h : ∀ d ∈ ds, 1 ≤ d ∧ d < 2 ^ w) : i2dLen w (nsum w ds) = ds.length ∧ i2d w (nsum w ds) = ds.map Int.ofNat := by
  have hl : i2dLen w (nsum w ds) = ds.length := by
    have h1 : nbits (nsum w ds) ≤ w * ds.length := bits_lt (nsum_lt w ds fun d hd => (h d hd).2)
    have h2 := bits_ge (nsum_ge w h0 fun d hd => (h d hd).1)
    have hp : 0 < ds.length := List.length_pos_iff.mpr h0
    obtain ⟨n, hn⟩ : ∃ n, ds.length = n + 1 := ⟨ds.length - 1, by (first | lia | omega)⟩
    rw [hn] at h1 h2 ⊢
    rw [Nat.add_sub_cancel] at h2
    rw [Nat.mul_add, Nat.mul_one] at h1
    unfold i2dLen
    apply Nat.div_eq_of_lt_le
    · rw [Nat.mul_comm, Nat.mul_add]; (first | lia | omega)
    · rw [Nat.mul_comm, Nat.mul_add, Nat.mul_add]; (first | lia | omega)
  exact ⟨hl, by unfold i2d; rw [hl]; exact digs_nsum w ds h0 fun d hd => (h d hd).2⟩
theorem nsum_digit (w : Nat) : ∀ (ds : List Nat) (c : Nat), (∀ d ∈ ds, d < 2 ^ w) → c < ds.length → nsum w ds / 2 ^ (w * c) % 2 ^ w = ds.getD c 0
  | [], c, _, hc => by simp at hc
  | d :: ds, 0, h, _ => by
    have hd := h d (.head _)
    rw [Nat.mul_zero, Nat.pow_zero, Nat.div_one, nsum, Nat.add_mul_mod_self_left, Nat.mod_eq_of_lt hd]; rfl
  | d :: ds, c + 1, h, hc => by
    have hd := h d (.head _)
    have ih := nsum_digit w ds c (fun x hx => h x (.tail _ hx)) (by simpa using hc)
    rw [nsum, Nat.mul_add, Nat.mul_one, Nat.add_comm (w * c) w, Nat.pow_add, ← Nat.div_div_eq_div_mul, Nat.add_mul_div_left _ _ (Nat.two_pow_pos w), Nat.div_eq_of_lt hd, Nat.zero_add, ih]; rfl

noncomputable def pk (w : Nat) (F : List (List Bool)) (v : List Bool → Int) : Int := dsum w (F.map v)
noncomputable def dgOf (h : Int) (F : List (List Bool)) (v : List Bool → Int) : List Nat := F.map fun f => (v f + h).toNat
theorem pk_lift {w : Nat} {h : Int} : ∀ {F : List (List Bool)} {v : List Bool → Int}, (∀ f ∈ F, 0 ≤ v f + h) → pk w F v + pk w F (fun _ => h) = (nsum w (dgOf h F v) : Int)
  | [], v, _ => rfl
  | f :: F, v, hv => by
    have ih := pk_lift (w := w) (h := h) (F := F) (v := v) fun x hx => hv x (.tail _ hx)
    have h1 := hv f (.head _)
    unfold pk dgOf at ih ⊢
    rw [List.map_cons, List.map_cons, List.map_cons, dsum, dsum, nsum]
    push_cast
    rw [← ih, Int.mul_add]
    (first | lia | omega)
theorem pk_lin {w : Nat} (a c : Int) (u v : List Bool → Int) : ∀ F : List (List Bool), pk w F (fun f => a * u f + c * v f) = a * pk w F u + c * pk w F v
  | [] => by simp [pk, dsum]
  | f :: F => by
    have ih := pk_lin (w := w) a c u v F
    unfold pk at ih ⊢
    rw [List.map_cons, List.map_cons, List.map_cons, dsum, dsum, dsum, ih]
    rw [Int.mul_add, Int.mul_add, Int.mul_add]
    rw [Int.mul_left_comm (2 ^ w) a, Int.mul_left_comm (2 ^ w) c]
    (first | lia | omega)
theorem pk_abs {w : Nat} {k : Nat} (hk : k ≤ 2 ^ w) (hw : 1 ≤ w) : ∀ {F : List (List Bool)} {v : List Bool → Int}, (∀ f ∈ F, (v f).natAbs < k) → (pk w F v).natAbs < 2 ^ (w * F.length)
  | [], v, _ => by simp [pk, dsum]
  | f :: F, v, hv => by
    have ih := pk_abs hk hw (F := F) (v := v) fun x hx => hv x (.tail _ hx)
    have h1 := hv f (.head _)
    unfold pk at ih ⊢
    rw [List.map_cons, dsum, List.length_cons, Nat.mul_add, Nat.mul_one, Nat.add_comm (w * F.length), Nat.pow_add]
    have h2 : (v f + 2 ^ w * dsum w (F.map v)).natAbs ≤ (v f).natAbs + 2 ^ w * (dsum w (F.map v)).natAbs := by
      refine Nat.le_trans (Int.natAbs_add_le _ _) ?_
      rw [Int.natAbs_mul, Int.natAbs_pow]; exact Nat.le_refl _
    have h3 : 2 ^ w * ((dsum w (F.map v)).natAbs + 1) ≤ 2 ^ w * 2 ^ (w * F.length) := Nat.mul_le_mul_left _ ih
    rw [Nat.mul_add, Nat.mul_one] at h3
    (first | lia | omega)
theorem pk_sum {w : Nat} (g : List Bool → Bool) (F : List (List Bool)) : (((List.range F.length).filter fun j => g (F.getD j [])).map fun j => (2 : Int) ^ (w * j)).sum = pk w F (fun f => ind (g f)) := by
  have gen : ∀ (F : List (List Bool)) (c : Nat), (((List.range F.length).filter fun j => g (F.getD j [])).map fun j => (2 : Int) ^ (w * (j + c))).sum = 2 ^ (w * c) * pk w F (fun f => ind (g f)) := by
    intro F
    induction F with
    | nil => intro c; simp [pk, dsum]
    | cons f F ih =>
      intro c
      rw [List.length_cons, List.range_succ_eq_map, List.filter_cons]
      have e1 : (((List.range F.length).map Nat.succ).filter fun j => g ((f :: F).getD j [])) = ((List.range F.length).filter fun j => g (F.getD j [])).map Nat.succ := by
        rw [List.filter_map]; rfl
      have e2 : ∀ l : List Nat, (l.map Nat.succ).map (fun j => (2 : Int) ^ (w * (j + c))) = l.map fun j => (2 : Int) ^ (w * (j + (c + 1))) := fun l => by
        rw [List.map_map]
        apply List.map_congr_left
        intro j _
        show (2 : Int) ^ (w * (j + 1 + c)) = _
        rw [Nat.add_assoc, Nat.add_comm 1 c]
      have e3 : pk w (f :: F) (fun f => ind (g f)) = ind (g f) + 2 ^ w * pk w F (fun f => ind (g f)) := rfl
      have e4 : (2 : Int) ^ (w * (c + 1)) = 2 ^ (w * c) * 2 ^ w := by rw [Nat.mul_add, Nat.mul_one, Int.pow_add]
      show List.sum (List.map _ (if g f = true then 0 :: _ else _)) = _
      rw [e1, e3, Int.mul_add, ← Int.mul_assoc, ← e4, ← ih (c + 1), ← e2]
      cases g f
      · rw [if_neg (by decide)]; simp [ind]
      · rw [if_pos rfl, List.map_cons, List.sum_cons, Nat.zero_add]; simp [ind]
  have := gen F 0
  rw [Nat.mul_zero, Int.pow_zero, Int.one_mul] at this
  rw [← this]
  rfl
end Mine
open PySem PySem.Calls PyProof.Rows PySem.W
set_option Elab.async false
set_option autoImplicit false
set_option linter.unusedVariables false
set_option maxRecDepth 20000
namespace Mine
section
variable {m : Nat} {F : List (List Bool)}
noncomputable def clr0 : Clr := ⟨[], 1, fun _ => 0⟩
noncomputable def freeOf (F : List (List Bool)) (v : List Bool → Int) : List Nat := (List.range F.length).filter fun k => v (F.getD k []) != 0
noncomputable def fstNz (F : List (List Bool)) (v : List Bool → Int) : Nat := (freeOf F v).headD 0
noncomputable def bef (cl : List Clr) : Nat → Int
  | 0 => 1
  | i + 1 => (cl.getD i clr0).p
noncomputable def vAt (cl : List Clr) (v : List Bool → Int) : Nat → (List Bool → Int)
  | 0 => v
  | i + 1 => fun f => bef cl i * ((cl.getD i clr0).p * vAt cl v i f - vAt cl v i (cl.getD i clr0).c * (cl.getD i clr0).r f)
noncomputable def nextC (F : List (List Bool)) (v : List Bool → Int) : Clr := ⟨F.getD (fstNz F v) [], v (F.getD (fstNz F v) []), v⟩
noncomputable def term0 (m : Nat) (F : List (List Bool)) (t : Nat) : List Bool → Int := fun f => ind (inc m ((kept m F).getD t 0) f)
noncomputable def clears (m : Nat) (F : List (List Bool)) : Nat → List Clr
  | 0 => []
  | t + 1 => clears m F t ++ [nextC F (vAt (clears m F t) (term0 m F t) t)]
theorem clears_len (m : Nat) (F : List (List Bool)) : ∀ t, (clears m F t).length = t
  | 0 => rfl
  | t + 1 => by rw [clears, List.length_append, clears_len m F t]; rfl
theorem free_get {v : List Bool → Int} (h : ∃ f ∈ F, v f ≠ 0) : freeOf F v ≠ [] ∧ fstNz F v < F.length ∧ v (F.getD (fstNz F v) []) ≠ 0 := by
  obtain ⟨f, hf, hv⟩ := h
  obtain ⟨k, hk, rfl⟩ := List.getElem_of_mem hf
  have hm : k ∈ freeOf F v := by
    unfold freeOf
    rw [List.mem_filter, List.mem_range]
    refine ⟨hk, ?_⟩
    rw [List.getD_eq_getElem?_getD, List.getElem?_eq_getElem hk]
    exact bne_iff_ne.mpr hv
  have h0 : freeOf F v ≠ [] := List.ne_nil_of_mem hm
  have hh : fstNz F v ∈ freeOf F v := by
    unfold fstNz
    cases e : freeOf F v with
    | nil => exact absurd e h0
    | cons a l => exact .head _
  unfold freeOf at hh
  rw [List.mem_filter, List.mem_range] at hh
  exact ⟨h0, hh.1, bne_iff_ne.mp hh.2⟩
theorem getD_cl {cl : List Clr} {i : Nat} (h : i < cl.length) : cl[i]? = some (cl.getD i clr0) := by
  rw [List.getD_eq_getElem?_getD, List.getElem?_eq_getElem h]; rfl
theorem Elim.bef {cl : List Clr} (E : Elim m F cl) {i : Nat} (hi : i ≤ cl.length) : Unit1 (bef cl i) := by
  cases i with
  | zero => exact .inl rfl
  | succ i => exact (E.piv i _ (getD_cl hi)).2
theorem left_at {cl : List Clr} (E : Elim m F cl) (hF : Fam m F) (hl : cl.length < F.length) : ∀ i, i ≤ cl.length → Left m F cl i (vAt cl (term0 m F cl.length) i)
  | 0, _ => by
    have hk : (kept m F)[cl.length]? = some ((kept m F).getD cl.length 0) := by
      rw [List.getD_eq_getElem?_getD, List.getElem?_eq_getElem (by rw [kept_len]; exact hl)]; rfl
    exact Left.start hF hk
  | i + 1, hi => Left.step E hF (left_at E hF hl i (by (first | lia | omega))) (getD_cl hi) (E.bef (by (first | lia | omega)))
theorem clears_ok (hF : Fam m F) : ∀ t, t ≤ F.length → Elim m F (clears m F t)
  | 0, _ => Elim.nil
  | t + 1, h => by
    have E := clears_ok hF t (by (first | lia | omega))
    have hl : (clears m F t).length < F.length := by rw [clears_len]; (first | lia | omega)
    have L := left_at E hF hl (clears m F t).length (Nat.le_refl _)
    rw [clears_len] at L
    have L' : Left m F (clears m F t) (clears m F t).length (vAt (clears m F t) (term0 m F t) t) := by rw [clears_len]; exact L
    have fin := Left.fin E hF hl L'
    obtain ⟨_, h2, h3⟩ := free_get fin.2
    exact Elim.next E hF hl L' (by rw [List.getD_eq_getElem?_getD, List.getElem?_eq_getElem h2]; exact List.getElem_mem h2) h3
theorem turn_ok (hF : Fam m F) {t : Nat} (ht : t < F.length) (h7 : F.length ≤ 7) : (∀ i, i ≤ t → ∀ f ∈ F, (vAt (clears m F t) (term0 m F t) i f).natAbs ≤ 64) ∧
    (∀ f ∈ F, Sm (vAt (clears m F t) (term0 m F t) t f)) ∧ ∃ f ∈ F, vAt (clears m F t) (term0 m F t) t f ≠ 0 := by
  have E := clears_ok hF t (by (first | lia | omega))
  have hl : (clears m F t).length < F.length := by rw [clears_len]; (first | lia | omega)
  have LA : ∀ i, i ≤ t → Left m F (clears m F t) i (vAt (clears m F t) (term0 m F t) i) := fun i hi => by
    have := left_at E hF hl i (by rw [clears_len]; exact hi)
    rw [clears_len] at this; exact this
  refine ⟨fun i hi f hf => ?_, ?_⟩
  · have := (LA i hi).small f hf
    have h2 : (2 : Nat) ^ i ≤ 2 ^ 6 := Nat.pow_le_pow_right (by decide) (by (first | lia | omega))
    (first | lia | omega)
  · have L' : Left m F (clears m F t) (clears m F t).length (vAt (clears m F t) (term0 m F t) t) := by
      have := LA t (Nat.le_refl _)
      rw [clears_len]; exact this
    exact Left.fin E hF hl L'
end
end Mine
open PySem PySem.Calls PyProof.Rows PySem.W
set_option Elab.async false
set_option autoImplicit false
set_option linter.unusedVariables false
set_option maxRecDepth 20000
namespace Mine
theorem bits_abs {x : Int} {B : Nat} (h : x.natAbs < 2 ^ B) : Builtin.Int.intBits x ≤ B := by
  have h' := bits_lt h
  unfold Builtin.Int.intBits at h' ⊢
  by_cases h0 : x = 0
  · subst h0; simp
  · rw [if_neg (by simpa using h0)]
    rw [if_neg (by simpa using h0), Int.natAbs_natCast] at h'
    exact h'
noncomputable def cpv (w : Nat) (F : List (List Bool)) (x : Clr) : PV := .tup [.int (F.idxOf x.c : Nat), .int x.p, .int (pk w F x.r)]
noncomputable def cps (w : Nat) (F : List (List Bool)) (cl : List Clr) : List PV := cl.map (cpv w F)
theorem unit_abs {x : Int} (h : Unit1 x) : x.natAbs = 1 := by rcases h with h | h <;> subst h <;> rfl
theorem sm_abs {x : Int} (h : Sm x) : x.natAbs ≤ 1 := by rcases h with h | h | h <;> subst h <;> decide
section
variable {S : Sys} {sc : Scope} {ns : List Str} {base : Heap} {env : Env} {s s' s0 : Shared} {ρ ρ' : Ro} {rt : Nat → Addr} {b : Bool} {d : Nat} {q : Md} {p p1 p2 p' : PV} {mg mb : Str → Option Value}
noncomputable abbrev detNs : List Str := ["terms", "width", "half", "lift", "cleared", "term", "left", "before", "column", "pivot", "row", "entry", "rest", "entries", "free"]
noncomputable abbrev detLoop : List Stmt := match (stBody (topAt 21)).getD 3 (.Pass ⟨0, 0, 0, 0⟩) with | .For _ _ body _ _ => body | _ => []
noncomputable abbrev detIn : List Stmt := match detLoop.getD 2 (.Pass ⟨0, 0, 0, 0⟩) with | .For _ _ body _ _ => body | _ => []
noncomputable abbrev detRo (w : Nat) (ts : List Int) (F : List (List Bool)) (cl : List Clr) (k : Own) (r : Ro) : Ro := [some (.ints ts, .imm), some (.int (w : Int), .imm), some (.int ((2 ^ (w - 1) : Nat) : Int), .imm), some (.int (pk w F fun _ => ((2 ^ (w - 1) : Nat) : Int)), .imm), some (.list (cps w F cl), k)] ++ r

theorem det_in {w : Nat} {ts : List Int} {m : Nat} {F : List (List Bool)} {cl : List Clr} {v : List Bool → Int} {x : Clr} {t0 bf : Int} {aI : Addr} {fI : FuncData} {Φ : Out → Prop} (W : S.Ok mg mb) (B : Bn mg) (TI : TopFn S mg 8 aI fI) (mI : mg "int_divmod" = some (.ref aI))
    (hw : 10 ≤ w) (hw2 : w ≤ 17) (h7 : F.length ≤ 7) (hxc : x.c ∈ F) (hxp : Unit1 x.p) (hxr : ∀ f ∈ F, Sm (x.r f)) (hv : ∀ f ∈ F, (v f).natAbs ≤ 64) (hb : Unit1 bf)
    (cI : ∀ P β : Int, Unit1 β → P.natAbs < 2 ^ 128 → CallOk S b d (.ref aI) [.int (P * ((2 ^ 120 : Nat) : Int)), .int (β * ((2 ^ 120 : Nat) : Int))] (.tup [.int (β * P), .int 0]))
    (fin : Φ (.next (detRo w ts F cl .frz [some (.int t0, .imm), some (.int (pk w F fun f => bf * (x.p * v f - v x.c * x.r f)), .imm), some (.int x.p, .imm), some (.int (F.idxOf x.c : Nat), .imm), some (.int x.p, .imm), some (.int (pk w F x.r), .imm), some (.int (v x.c), .imm), some (.int 0, .imm), none, none]))) :
    Sx S (stScope (topAt 21)) detNs b d (detRo w ts F cl .frz [some (.int t0, .imm), some (.int (pk w F v), .imm), some (.int bf, .imm), some (.int (F.idxOf x.c : Nat), .imm), some (.int x.p, .imm), some (.int (pk w F x.r), .imm), none, none, none, none]) detIn Φ := by
  obtain ⟨H, hH⟩ : ∃ H : Nat, H = 2 ^ (w - 1) := ⟨_, rfl⟩
  have hHw : 2 ^ w = 2 * H := by rw [hH, Nat.mul_comm, ← Nat.pow_succ]; congr 1; (first | lia | omega)
  have hH512 : 512 ≤ H := by
    rw [hH]
    exact Nat.le_trans (show 512 ≤ 2 ^ 9 by decide) (Nat.pow_le_pow_right (by decide) (by (first | lia | omega)))
  have hv0 : ∀ f ∈ F, 0 ≤ v f + (H : Int) := fun f hf => by have := hv f hf; (first | lia | omega)
  have hds : ∀ z ∈ dgOf H F v, z < 2 ^ w := fun z hz => by
    obtain ⟨f, hf, rfl⟩ := List.mem_map.mp hz
    have := hv f hf
    rw [hHw]; (first | lia | omega)
  obtain ⟨col, hcol⟩ : ∃ col, col = F.idxOf x.c := ⟨_, rfl⟩
  have hcl : col < F.length := hcol ▸ List.idxOf_lt_length_iff.mpr hxc
  have hget : (dgOf H F v).getD col 0 = (v x.c + H).toNat := by
    unfold dgOf
    rw [List.getD_eq_getElem?_getD, List.getElem?_map, List.getElem?_eq_getElem hcl]
    subst hcol
    rw [List.getElem_idxOf]; rfl
  have hdl : (dgOf H F v).length = F.length := by unfold dgOf; rw [List.length_map]
  have hdig := nsum_digit w (dgOf H F v) col hds (by rw [hdl]; exact hcl)
  have hlift := pk_lift (w := w) hv0
  have hvx := hv x.c hxc
  have hva : (pk w F v).natAbs < 2 ^ 126 := by
    refine Nat.lt_of_lt_of_le (pk_abs (k := 65) (Nat.le_trans (show 65 ≤ 2 ^ 10 by decide) (Nat.pow_le_pow_right (by decide) hw)) (by (first | lia | omega)) fun f hf => by have := hv f hf; (first | lia | omega)) (Nat.pow_le_pow_right (by decide) ?_)
    exact Nat.le_trans (Nat.mul_le_mul hw2 h7) (by decide)
  have hra : (pk w F x.r).natAbs < 2 ^ 119 := by
    refine Nat.lt_of_lt_of_le (pk_abs (k := 2) (Nat.le_trans (show 2 ≤ 2 ^ 10 by decide) (Nat.pow_le_pow_right (by decide) hw)) (by (first | lia | omega)) fun f hf => by have := sm_abs (hxr f hf); (first | lia | omega)) (Nat.pow_le_pow_right (by decide) ?_)
    exact Nat.le_trans (Nat.mul_le_mul hw2 h7) (by decide)
  have hxa := unit_abs hxp
  have hPa : (x.p * pk w F v - v x.c * pk w F x.r).natAbs < 2 ^ 128 := by
    have h1 : (x.p * pk w F v).natAbs < 2 ^ 126 := by rw [Int.natAbs_mul, hxa, Nat.one_mul]; exact hva
    have h2 : (v x.c * pk w F x.r).natAbs ≤ 64 * 2 ^ 119 := by rw [Int.natAbs_mul]; exact Nat.mul_le_mul hvx (Nat.le_of_lt hra)
    have e3 : (64 : Nat) * 2 ^ 119 = 2 ^ 125 := by decide
    have e4 : (2 : Nat) ^ 126 + 2 ^ 125 < 2 ^ 128 := by decide
    have h5 := Int.natAbs_sub_le (x.p * pk w F v) (v x.c * pk w F x.r)
    (first | lia | omega)
  have ePk : pk w F (fun f => bf * (x.p * v f - v x.c * x.r f)) = bf * (x.p * pk w F v - v x.c * pk w F x.r) := by
    have := pk_lin (w := w) (bf * x.p) (-(bf * v x.c)) v x.r F
    rw [show (fun f => bf * (x.p * v f - v x.c * x.r f)) = fun f => bf * x.p * v f + -(bf * v x.c) * x.r f from by
      funext f; rw [Int.mul_sub, Int.mul_assoc, Int.neg_mul, Int.mul_assoc]; rfl]
    rw [this, Int.mul_sub, Int.mul_assoc, Int.neg_mul, Int.mul_assoc]; rfl
  have e120 : (2 : Int) ^ (Int.toNat 120) = ((2 ^ 120 : Nat) : Int) := by decide
  unfold detRo at fin ⊢
  rw [← hH, ← hcol] at fin ⊢
  -- entry
  refine Sx.cons (S1.assign (p := .int (v x.c)) 11 rfl (Ev.op2 (q1 := .R) (q2 := .R) (p1 := .int ((v x.c + H).toNat : Int))
    (Ev.op2 (q1 := .R) (q2 := .R) (p1 := .int ((nsum w (dgOf H F v) / 2 ^ (w * col) : Nat) : Int)) (p2 := .int ((2 ^ w : Nat) : Int))
      (Ev.op2 (q1 := .R) (q2 := .R) (p1 := .int (nsum w (dgOf H F v) : Int)) (p2 := .int ((w * col : Nat) : Int))
        (Ev.op2 (q1 := .R) (q2 := .R) (Ev.var 6 rfl rfl rfl) (Ev.var 3 rfl rfl rfl) (o_add.to hlift))
        (Ev.op2 (q1 := .R) (q2 := .R) (Ev.var 1 rfl rfl rfl) (Ev.var 8 rfl rfl rfl) ((o_mul (IntMulOk.of_left (Nat.le_trans (bits_lt (x := w) (B := 5) (by (first | lia | omega))) (by decide)))).to (by rw [Int.natCast_mul])))
        ((o_shr (by (first | lia | omega))).to ?_))
      (Ev.op2 (q1 := .R) (q2 := .R) Ev.cint (Ev.var 2 rfl rfl rfl) ((o_mul (IntMulOk.of_left (by decide))).to (by rw [hHw]; push_cast; rfl)))
      ((o_mod ?_).to ?_))
    (Ev.var 2 rfl rfl rfl) (o_sub.to ?_)) ?_ (by decide) (by decide))
  · rw [Int.toNat_natCast, Int.fdiv_eq_ediv_of_nonneg _ (Int.le_of_lt (Int.pow_pos (by decide))), Int.natCast_ediv, Int.natCast_pow]; rfl
  · have := Nat.two_pow_pos w; (first | lia | omega)
  · rw [fmod_nat, hdig, hget]
  · have := hv0 x.c hxc; (first | lia | omega)
  -- left, rest
  refine Sx.cons (S1.unpack2 (q1 := .R) (p1 := .int (pk w F fun f => bf * (x.p * v f - v x.c * x.r f))) (p2 := .int 0) 6 12 rfl rfl (Ev.call (q1 := .R) (.glob W rfl mI) (TI.callee W)
    (Evs.cons (p := .int ((x.p * pk w F v - v x.c * pk w F x.r) * ((2 ^ 120 : Nat) : Int))) (Ev.op2 (q1 := .R) (q2 := .R)
      (Ev.op2 (q1 := .R) (q2 := .R) (Ev.op2 (q1 := .R) (q2 := .R) (Ev.var 9 rfl rfl rfl) (Ev.var 6 rfl rfl rfl) (o_mul (IntMulOk.of_left (bits_abs (by rw [hxa]; decide)))))
        (Ev.op2 (q1 := .R) (q2 := .R) (Ev.var 11 rfl rfl rfl) (Ev.var 10 rfl rfl rfl) (o_mul (IntMulOk.of_left (bits_abs (Nat.lt_of_le_of_lt hvx (by decide)))))) o_sub) Ev.cint ((o_shl (by decide) ?_).to (by rw [e120])))
      (Evs.cons (p := .int (bf * ((2 ^ 120 : Nat) : Int))) (Ev.op2 (q1 := .R) (q2 := .R) (Ev.var 7 rfl rfl rfl) Ev.cint ((o_shl (by decide) ?_).to (by rw [e120]))) Evs.nil)) ((cI _ _ hb hPa).to (by rw [ePk]))) rfl rfl ?_ (by decide) (by decide) (by decide))
  · have := bits_abs hPa; (first | lia | omega)
  · have := bits_abs (x := bf) (B := 1) (by rw [unit_abs hb]; decide); (first | lia | omega)
  refine Sx.cons (S1.if (c := false) (Tr.cast (Tr.cmp (q1 := .R) (q2 := .R) (Ev.var 12 rfl rfl rfl) Ev.cint o_ne) rfl) (fun hc => by cases hc) (fun _ => Sx.nil ?_))
  exact Sx.cons (S1.assign 7 rfl (Ev.var 9 rfl rfl rfl) (Sx.nil fin) (by decide) (by decide))
end
end Mine
open PySem PySem.Calls PyProof.Rows PySem.W
set_option Elab.async false
set_option autoImplicit false
set_option linter.unusedVariables false
set_option maxRecDepth 20000
namespace Mine
section
variable {S : Sys} {sc : Scope} {ns : List Str} {base : Heap} {env : Env} {s s' s0 : Shared} {ρ ρ' : Ro} {rt : Nat → Addr} {b : Bool} {d : Nat} {q : Md} {p p1 p2 p' : PV} {mg mb : Str → Option Value}

theorem cps_get {w : Nat} {F : List (List Bool)} {cl : List Clr} {i : Nat} {p : PV} (h : (cps w F cl)[i]? = some p) : ∃ hi : i < cl.length, p = cpv w F (cl.getD i clr0) := by
  unfold cps at h
  rw [List.getElem?_map] at h
  by_cases hi : i < cl.length
  · rw [getD_cl hi] at h
    exact ⟨hi, (Option.some.inj h).symm⟩
  · rw [List.getElem?_eq_none (by (first | lia | omega))] at h; cases h

theorem det_step {w : Nat} {ts : List Int} {m j : Nat} {F : List (List Bool)} {aI aG : Addr} {fI fG : FuncData} {Φ : Out → Prop} (W : S.Ok mg mb) (B : Bn mg) (TI : TopFn S mg 8 aI fI) (mI : mg "int_divmod" = some (.ref aI)) (TG : TopFn S mg 5 aG fG) (mG : mg "_int2digits" = some (.ref aG))
    (hw : 10 ≤ w) (hw2 : w ≤ 17) (hF : Fam m F) (h7 : F.length ≤ 7) (hj : j < F.length)
    (cI : ∀ P β : Int, Unit1 β → P.natAbs < 2 ^ 128 → CallOk S b d (.ref aI) [.int (P * ((2 ^ 120 : Nat) : Int)), .int (β * ((2 ^ 120 : Nat) : Int))] (.tup [.int (β * P), .int 0]))
    (cG : ∀ ds : List Nat, ds ≠ [] → ds.length ≤ 7 → (∀ z ∈ ds, 1 ≤ z ∧ z < 2 ^ w) → CallOk S b d (.ref aG) [.int (nsum w ds : Int), .int (w : Int)] (.ints (ds.map Int.ofNat)))
    (fin : ∀ a c e f : PV × Own, Φ (.next (detRo w ts F (clears m F (j + 1)) .mut [some (.int (pk w F (term0 m F j)), .imm), some a, some c, none, none, none, none, none, some e, some f]))) :
    Sx S (stScope (topAt 21)) detNs b d (detRo w ts F (clears m F j) .mut [some (.int (pk w F (term0 m F j)), .imm), none, none, none, none, none, none, none, none, none]) detLoop Φ := by
  obtain ⟨cl, hcl⟩ : ∃ cl, cl = clears m F j := ⟨_, rfl⟩
  have hll : cl.length = j := by rw [hcl, clears_len]
  have E : Elim m F cl := hcl ▸ clears_ok hF j (by (first | lia | omega))
  obtain ⟨t1, t2, t3⟩ := turn_ok hF hj h7
  have hnx : clears m F (j + 1) = cl ++ [nextC F (vAt cl (term0 m F j) j)] := by rw [clears, ← hcl]
  rw [← hcl] at t1 t2 t3
  rw [hnx] at fin
  rw [← hcl]
  obtain ⟨v0, hv0⟩ : ∃ v0, v0 = term0 m F j := ⟨_, rfl⟩
  rw [← hv0] at t1 t2 t3 fin ⊢
  refine Sx.cons (S1.assign 6 rfl (Ev.var 5 rfl rfl rfl) ?_ (by decide) (by decide))
  refine Sx.cons (S1.assign (p := .int 1) 7 rfl Ev.cint ?_ (by decide) (by decide))
  refine Sx.cons (S1.frozen 4 rfl (S1.for3 8 9 10 rfl rfl rfl (It.own (ps := cps w F cl) 4 rfl rfl) (fun p hp => ?_)
    (fun i => detRo w ts F cl .frz [some (.int (pk w F v0), .imm), some (.int (pk w F (vAt cl v0 i)), .imm), some (.int (bef cl i), .imm), none, none, none, none, none, none, none]) Le.refl (fun i p hi => ?_) ?_ (by decide) (by decide) (by decide) (by decide)))
  · obtain ⟨x, _, rfl⟩ := List.mem_map.mp hp
    exact ⟨_, _, _, rfl, rfl, rfl, rfl⟩
  · obtain ⟨hi', rfl⟩ := cps_get hi
    have hx := getD_cl hi'
    have hpv := E.piv i _ hx
    show Sx S (stScope (topAt 21)) detNs b d (detRo w ts F cl .frz [some (.int (pk w F v0), .imm), some (.int (pk w F (vAt cl v0 i)), .imm), some (.int (bef cl i), .imm), some (.int (F.idxOf (cl.getD i clr0).c : Nat), .imm), some (.int (cl.getD i clr0).p, .imm), some (.int (pk w F (cl.getD i clr0).r), .imm), none, none, none, none]) detIn _
    refine det_in (m := m) W B TI mI hw hw2 h7 (E.mem i _ hx) hpv.2 (E.sm i _ hx) (t1 i (by (first | lia | omega))) (E.bef (by (first | lia | omega))) cI ?_
    show Le (detRo w ts F cl .frz [some (.int (pk w F v0), .imm), some (.int (pk w F (vAt cl v0 (i + 1))), .imm), some (.int (bef cl (i + 1)), .imm), none, none, none, none, none, none, none]) _
    exact Le.same (Le.same (Le.same (Le.same (Le.same (Le.same (Le.same (Le.same (Le.drop (Le.drop (Le.drop (Le.drop (Le.drop (Le.drop (Le.drop Le.nil))))))))))))))
  · refine Sx.nil ⟨_, rfl, ?_⟩
    have el : (cps w F cl).length = j := by unfold cps; rw [List.length_map, hll]
    rw [el]
    obtain ⟨v, hv⟩ : ∃ v, v = vAt cl v0 j := ⟨_, rfl⟩
    rw [← hv] at t2 t3 fin
    show Sx S (stScope (topAt 21)) detNs b d (detRo w ts F cl .mut [some (.int (pk w F v0), .imm), some (.int (pk w F (vAt cl v0 j)), .imm), some (.int (bef cl j), .imm), none, none, none, none, none, none, none]) (detLoop.drop 3) Φ
    rw [← hv]
    obtain ⟨H, hH⟩ : ∃ H : Nat, H = 2 ^ (w - 1) := ⟨_, rfl⟩
    have hHw : 2 ^ w = 2 * H := by rw [hH, Nat.mul_comm, ← Nat.pow_succ]; congr 1; (first | lia | omega)
    have hH512 : 512 ≤ H := by
      rw [hH]
      exact Nat.le_trans (show 512 ≤ 2 ^ 9 by decide) (Nat.pow_le_pow_right (by decide) (by (first | lia | omega)))
    have hvr : ∀ f ∈ F, 0 ≤ v f + (H : Int) := fun f hf => by have := sm_abs (t2 f hf); (first | lia | omega)
    have hds : ∀ z ∈ dgOf H F v, 1 ≤ z ∧ z < 2 ^ w := fun z hz => by
      obtain ⟨f, hf, rfl⟩ := List.mem_map.mp hz
      have := sm_abs (t2 f hf)
      rw [hHw]; (first | lia | omega)
    have hdl : (dgOf H F v).length = F.length := by unfold dgOf; rw [List.length_map]
    have hd0 : dgOf H F v ≠ [] := fun h => by rw [h] at hdl; simp at hdl; (first | lia | omega)
    have hlift := pk_lift (w := w) hvr
    have hvl : (F.map v).length = F.length := List.length_map _
    unfold detRo at fin ⊢
    rw [← hH] at fin ⊢
    -- entries
    refine Sx.cons (S1.assign (p := .ints (F.map v)) 13 rfl (Ev.cast (Ev.compI (l := (dgOf H F v).map Int.ofNat) (t := fun _ => true) (f := fun i => .int (i - H)) [2] ⟨by decide, rfl, rfl, rfl, rfl, rfl, rfl⟩
      (It.list (Ev.call (q1 := .R) (.glob W rfl mG) (TG.callee W) (Evs.cons (p := .int (nsum w (dgOf H F v) : Int)) (Ev.op2 (q1 := .R) (q2 := .R) (Ev.var 6 rfl rfl rfl) (Ev.var 3 rfl rfl rfl) (o_add.to hlift)) (Evs.cons (Ev.var 1 rfl rfl rfl) Evs.nil)) (cG _ hd0 (by (first | lia | omega)) hds)) (atoms_ints _))
      (by simp only [sizeLine, List.length_map]; (first | lia | omega)) (fun i hi => .nil) (fun i hi _ => Ev.op2 (q1 := .R) (q2 := .R) (Ev.var 0 rfl rfl rfl) (Ev.var 1 rfl rfl rfl) o_sub) (fun i hi _ => rfl)) ?_) ?_ (by decide) (by decide) (fun env h => swaps_cell (h _ rfl (by decide))))
    · rw [List.filter_eq_self.mpr fun _ _ => rfl, dgOf, PV.ints, List.map_map, List.map_map, List.map_map]
      apply congrArg
      apply List.map_congr_left
      intro f hf
      have := hvr f hf
      show PV.int (((v f + (H : Int)).toNat : Int) - H) = PV.int (v f)
      congr 1; (first | lia | omega)
    -- free
    refine Sx.cons (S1.assignCompR (n := F.length) (t := fun k => v (F.getD k []) != 0) (f := fun (k : Nat) => PV.int (k : Int)) .imm 14 rfl [13] ⟨by decide, rfl, rfl, rfl, rfl, rfl, rfl⟩
      (It.rangeN (q1 := .R) (.blt W rfl B.range rfl (by decide)) (Ev.call (q1 := .R) (.blt W rfl B.len rfl (by decide)) (.blt _) (Evs.cons (Ev.var 13 rfl rfl rfl) Evs.nil) ((c_lenList (by simp only [List.length_map]; (first | lia | omega))).to (by simp only [List.length_map]))) (by (first | lia | omega))) (by simp only [sizeLine]; (first | lia | omega)) (fun k hk => .one ?_) (fun k hk _ => Ev.var 0 rfl rfl rfl) (fun k _ _ => rfl) ?_ (by decide) rfl)
    · refine Tr.cmp (q1 := .R) (q2 := .R) (p1 := .int (v (F.getD k []))) (Ev.idxA (q0 := .R) (q1 := .R) (k := (k : Int)) (Ev.var 1 rfl rfl rfl) (Ev.var 0 rfl rfl rfl) (by (first | lia | omega)) (by (first | lia | omega)) ?_ rfl) Ev.cint o_ne
      rw [Int.toNat_natCast, List.getElem?_map, List.getElem?_map, List.getElem?_eq_getElem hk, List.getD_eq_getElem?_getD, List.getElem?_eq_getElem hk]; rfl
    obtain ⟨f0, f1, f2⟩ := free_get t3
    have efr : ((List.range F.length).filter fun k => v (F.getD k []) != 0).map (fun (k : Nat) => PV.int (k : Int)) = ((freeOf F v).map Int.ofNat).map PV.int := by
      rw [List.map_map]; rfl
    rw [efr]
    refine Sx.cons (S1.if (c := false) (Tr.cast (Tr.cmp (q1 := .R) (q2 := .R) (p1 := .ints ((freeOf F v).map Int.ofNat)) (p2 := .ints []) (Ev.var 14 rfl rfl rfl) (Ev.list Evs.nil) o_leq) (decide_eq_false (by simpa using f0))) (fun hc => by cases hc) (fun _ => Sx.nil ?_))
    have eg : (((freeOf F v).map Int.ofNat).map PV.int)[0]? = some (.int (fstNz F v : Int)) := by
      unfold fstNz
      cases e : freeOf F v with
      | nil => exact absurd e f0
      | cons a l => rfl
    have eh : ((F.map v).map PV.int)[fstNz F v]? = some (.int (v (F.getD (fstNz F v) []))) := by
      rw [List.getElem?_map, List.getElem?_map, List.getElem?_eq_getElem f1, List.getD_eq_getElem?_getD, List.getElem?_eq_getElem f1]; rfl
    have efree : ∀ {q : Md} {e : Expr} {ρ : Ro} {pos kp : Pos} {kk : Nat}, Ev S (stScope (topAt 21)) detNs b d .R ρ e (.list (((freeOf F v).map Int.ofNat).map PV.int)) → Ev S (stScope (topAt 21)) detNs b d q ρ (.Subscript e (.Constant (.int 0) kk kp) pos) (.int (fstNz F v : Int)) :=
      fun he => Ev.idxA (q0 := .R) (q1 := .R) (k := 0) he Ev.cint (by decide) (by decide) eg rfl
    have eix : F.idxOf (F.getD (fstNz F v) []) = fstNz F v := by
      rw [List.getD_eq_getElem?_getD, List.getElem?_eq_getElem f1]
      exact hF.nd.idxOf_getElem _ _
    refine Sx.cons (S1.append (p := cpv w F (nextC F v)) 4 rfl rfl (Ev.cast (Ev.tup (Evs.cons (p := .int (fstNz F v : Int)) (efree (Ev.var 14 rfl rfl rfl)) (Evs.cons (p := .int (v (F.getD (fstNz F v) []))) (Ev.idxA (q0 := .R) (q1 := .R) (k := (fstNz F v : Int)) (Ev.var 13 rfl rfl rfl) (efree (Ev.var 14 rfl rfl rfl)) (by (first | lia | omega)) (by (first | lia | omega)) (by rw [Int.toNat_natCast]; exact eh) rfl) (Evs.cons (p := .int (pk w F v)) (Ev.var 6 rfl rfl rfl) Evs.nil))) (by simp [sizeLine])) ?_) ?_ ?_ ?_)
    · unfold cpv nextC; rw [eix]
    · show (cps w F cl ++ [cpv w F (nextC F v)]).all (fun p => match p with | .tup qs => qs.all (·.atom) | p => p.atom) = true
      unfold cps
      rw [List.all_append, Bool.and_eq_true]
      refine ⟨?_, rfl⟩
      rw [List.all_map, List.all_eq_true]; intro x _; rfl
    · unfold cps; rw [List.length_map]; simp only [sizeLine]; (first | lia | omega)
    · refine Sx.nil ?_
      have e5 : cps w F (cl ++ [nextC F v]) = cps w F cl ++ [cpv w F (nextC F v)] := by unfold cps; rw [List.map_append]; rfl
      rw [e5] at fin
      exact fin _ _ _ _

theorem det_body {w : Nat} {m : Nat} {F : List (List Bool)} {aI aG aD : Addr} {fI fG fD : FuncData} (W : S.Ok mg mb) (B : Bn mg) (TI : TopFn S mg 8 aI fI) (mI : mg "int_divmod" = some (.ref aI)) (TG : TopFn S mg 5 aG fG) (mG : mg "_int2digits" = some (.ref aG)) (TD : TopFn S mg 6 aD fD) (mD : mg "_digits2int" = some (.ref aD))
    (hw : 10 ≤ w) (hw2 : w ≤ 17) (hF : Fam m F) (h7 : F.length ≤ 7) (h0 : 0 < F.length)
    (cI : ∀ P β : Int, Unit1 β → P.natAbs < 2 ^ 128 → CallOk S b d (.ref aI) [.int (P * ((2 ^ 120 : Nat) : Int)), .int (β * ((2 ^ 120 : Nat) : Int))] (.tup [.int (β * P), .int 0]))
    (cG : ∀ ds : List Nat, ds ≠ [] → ds.length ≤ 7 → (∀ z ∈ ds, 1 ≤ z ∧ z < 2 ^ w) → CallOk S b d (.ref aG) [.int (nsum w ds : Int), .int (w : Int)] (.ints (ds.map Int.ofNat)))
    (cD : ∀ l : List Nat, l.length ≤ 7 → (∀ z ∈ l, z < 2 ^ w) → CallOk S b d (.ref aD) [.ints (l.map Int.ofNat), .int (w : Int)] (.int (dsum w (l.map Int.ofNat)))) :
    Sx S (stScope (topAt 21)) detNs b d [some (.ints ((List.range F.length).map fun t => pk w F (term0 m F t)), .imm), some (.int (w : Int), .imm), none, none, none, none, none, none, none, none, none, none, none, none, none] (stBody (topAt 21)) (fun o => o = .ret (.int (bef (clears m F F.length) F.length))) := by
  obtain ⟨ts, hts⟩ : ∃ ts, ts = (List.range F.length).map fun t => pk w F (term0 m F t) := ⟨_, rfl⟩
  have htl : ts.length = F.length := by rw [hts, List.length_map, List.length_range]
  rw [← hts]
  refine Sx.cons (S1.assign (p := .int ((2 ^ (w - 1) : Nat) : Int)) 2 rfl (Ev.op2 (q1 := .R) (q2 := .R) (p2 := .int ((w - 1 : Nat) : Int)) Ev.cint (Ev.op2 (q1 := .R) (q2 := .R) (Ev.var 1 rfl rfl rfl) Ev.cint (o_sub.to (by (first | lia | omega)))) ((o_pow2 (by (first | lia | omega))).to (by rw [Int.natCast_pow]; rfl))) ?_ (by decide) (by decide))
  refine Sx.cons (S1.assign (p := .int (pk w F fun _ => ((2 ^ (w - 1) : Nat) : Int))) 3 rfl (Ev.call (q1 := .R) (.glob W rfl mD) (TD.callee W) (Evs.cons (p := .ints ((List.replicate F.length (2 ^ (w - 1))).map Int.ofNat)) (Ev.cast (Ev.op2 (q1 := .R) (q2 := .R) (Ev.list (Evs.cons (Ev.var 2 rfl rfl rfl) Evs.nil) (by simp [sizeLine])) (Ev.call (q1 := .R) (.blt W rfl B.len rfl (by decide)) (.blt _) (Evs.cons (Ev.var 0 rfl rfl rfl) Evs.nil) ((c_lenList (by simp only [List.length_map]; (first | lia | omega))).to (p' := .int (F.length : Nat)) (by simp only [List.length_map, htl]))) (o_lmul rfl (by (first | lia | omega)) (by (first | lia | omega)))) ?_) (Evs.cons (Ev.var 1 rfl rfl rfl) Evs.nil)) ((cD _ (by rw [List.length_replicate]; exact h7) ?_).to ?_)) ?_ (by decide) (by decide))
  · rw [Int.toNat_natCast, PV.ints, List.map_replicate, List.map_replicate]; rfl
  · intro z hz
    rw [List.eq_of_mem_replicate hz]
    exact Nat.pow_lt_pow_right (by decide) (by (first | lia | omega))
  · unfold pk
    rw [List.map_replicate, List.map_const']; rfl
  refine Sx.cons (S1.assignOwn (p := .list []) 4 rfl (Ev.list Evs.nil) rfl ?_ (by decide) (by decide))
  refine Sx.cons (S1.for 5 rfl (It.list (Ev.var 0 rfl rfl rfl) (atoms_ints ts))
    (fun j => detRo w ts F (clears m F j) .mut [none, none, none, none, none, none, none, none, none, none]) Le.refl ?_ ?_ (by decide) (by decide))
  · intro j p hj
    obtain ⟨hj', rfl⟩ := items_ints hj
    clear hj
    have hjF : j < F.length := by (first | lia | omega)
    have etj : ts[j] = pk w F (term0 m F j) := by
      simp only [hts, List.getElem_map, List.getElem_range]
    rw [etj]
    show Sx S (stScope (topAt 21)) detNs b d (detRo w ts F (clears m F j) .mut [some (.int (pk w F (term0 m F j)), .imm), none, none, none, none, none, none, none, none, none]) detLoop _
    exact det_step W B TI mI TG mG hw hw2 hF h7 hjF cI cG fun a c e f => Le.same (Le.same (Le.same (Le.same (Le.same (Le.drop (Le.drop (Le.drop (Le.drop (Le.drop (Le.drop (Le.drop (Le.drop (Le.drop (Le.drop Le.nil))))))))))))))
  · refine Sx.nil ?_
    have e1 : (ts.map PV.int).length = F.length := by rw [List.length_map, htl]
    show Sx S _ _ b d (detRo w ts F (clears m F (ts.map PV.int).length) .mut [none, none, none, none, none, none, none, none, none, none]) _ _
    rw [e1]
    obtain ⟨n, hn⟩ : ∃ n, F.length = n + 1 := ⟨F.length - 1, by (first | lia | omega)⟩
    obtain ⟨cl, hcl⟩ : ∃ cl, cl = clears m F F.length := ⟨_, rfl⟩
    have hll : cl.length = n + 1 := by rw [hcl, clears_len, hn]
    rw [← hcl, hn]
    have hget : (cps w F cl)[((-1 : Int) + ((cps w F cl).length : Int)).toNat]? = some (cpv w F (cl.getD n clr0)) := by
      unfold cps
      rw [List.length_map, hll, show ((-1 : Int) + ((n + 1 : Nat) : Int)).toNat = n by (first | lia | omega), List.getElem?_map, getD_cl (by (first | lia | omega))]; rfl
    refine Sx.cons (S1.ret (p := .int (bef cl (n + 1))) (Ev.tidxA (q0 := .R) (q1 := .R) (k := 1) (Ev.frozen 4 rfl (by intro h; cases h) (Ev.idxNeg (q1 := .R) (k := -1) (Ev.var 4 rfl rfl rfl) (Ev.un (q1 := .R) Ev.cint (Op1.to o_neg rfl)) (by decide) ?_ (by decide) hget)) Ev.cint (by decide) (by decide) rfl rfl) rfl)
    unfold cps; rw [List.length_map, hll]; (first | lia | omega)
theorem det_unit {m : Nat} {F : List (List Bool)} (hF : Fam m F) (h0 : 0 < F.length) : Unit1 (bef (clears m F F.length) F.length) :=
  (clears_ok hF F.length (Nat.le_refl _)).bef (by rw [clears_len]; exact Nat.le_refl _)
end
end Mine
open PySem PySem.Calls PyProof.Rows PySem.W
set_option Elab.async false
set_option autoImplicit false
set_option linter.unusedVariables false
set_option maxRecDepth 20000
namespace Mine
noncomputable def litOf (y : Nat) : List Str := if y = 0 then ["0x0"] else namesTo y (y.log2 + 1)
theorem split_pf : ∀ y, y < 32 → Txt.split (pf y) ", " = litOf y := by
  have key : ∀ y, y < 32 → pf y = Mine.S (glue [44, 32] ((litOf y).map fun x => x.cps.toList)) ∧ ∀ l ∈ (litOf y).map (fun x => x.cps.toList), 44 ∉ l := by decide +kernel
  intro y hy
  obtain ⟨h1, h2⟩ := key y hy
  have h0 : (litOf y).map (fun x => x.cps.toList) ≠ [] := by
    intro h
    have h3 := List.map_eq_nil_iff.mp h
    have : ∀ y, y < 32 → litOf y ≠ [] := by decide +kernel
    exact this y hy h3
  rw [h1]
  have := split_glue (c := 44) (se := [32]) (by decide) _ h0 h2
  rw [show (", " : Str) = Mine.S [44, 32] from rfl, this, List.map_map]
  have e : ∀ x : Str, (Mine.S ∘ fun x : Str => x.cps.toList) x = x := fun x => S_toList x
  rw [List.map_congr_left (fun x _ => e x), List.map_id']
theorem lit_any : ∀ y, y < 32 → ∀ p, p < 5 → (litOf y).any (· == pf (2 ^ p)) = y.testBit p := by decide +kernel

/-! the order -/
noncomputable def rot (s : Nat) : List Nat := (List.range 5).map fun k => (s + k) % 5
theorem rot_len (s : Nat) : (rot s).length = 5 := by simp [rot]
theorem rot_nd : ∀ s, s < 5 → (rot s).Nodup ∧ (∀ o ∈ rot s, o < 5) ∧ ∀ q, q < 5 → q ∈ rot s := by decide +kernel
theorem sgns_inj {s : Nat} (hs : s < 5) {x y : Nat} (hx : x < 32) (hy : y < 32) (h : sgns (rot s) x = sgns (rot s) y) : x = y := by
  apply Nat.eq_of_testBit_eq
  intro q
  by_cases hq : q < 5
  · have := (rot_nd s hs).2.2 q hq
    exact (List.map_inj_left.mp h) q this
  · have h32 : 32 ≤ 2 ^ q := Nat.le_trans (show 32 ≤ 2 ^ 5 by decide) (Nat.pow_le_pow_right (by decide) (by (first | lia | omega)))
    rw [Nat.testBit_lt_two_pow (by (first | lia | omega)), Nat.testBit_lt_two_pow (by (first | lia | omega))]

/-! the members -/
noncomputable def msOf (raw : Nat → Nat) (n : Nat) : List Nat := (List.range 32).filter fun x => (List.range n).any fun i => raw i == x
section
variable {raw : Nat → Nat} {n : Nat}
theorem ms_mem (x : Nat) : x ∈ msOf raw n ↔ x < 32 ∧ ∃ i, i < n ∧ raw i = x := by
  unfold msOf
  rw [List.mem_filter, List.mem_range, List.any_eq_true]
  constructor
  · rintro ⟨h1, i, h2, h3⟩
    exact ⟨h1, i, List.mem_range.mp h2, eq_of_beq h3⟩
  · rintro ⟨h1, i, h2, h3⟩
    exact ⟨h1, i, List.mem_range.mpr h2, beq_iff_eq.mpr h3⟩
theorem ms_nd : (msOf raw n).Nodup := List.nodup_range.sublist List.filter_sublist
theorem ms_lt : ∀ x ∈ msOf raw n, x < 32 := fun x hx => ((ms_mem x).mp hx).1
theorem ms_len : (msOf raw n).length ≤ n := by
  have := len_le (l := msOf raw n) (l' := (List.range n).map raw) ms_nd fun x hx => by
    obtain ⟨_, i, hi, e⟩ := (ms_mem x).mp hx
    exact List.mem_map.mpr ⟨i, List.mem_range.mpr hi, e⟩
  rw [List.length_map, List.length_range] at this; exact this
theorem ms_pos (hn : 0 < n) (h : raw 0 < 32) : 0 < (msOf raw n).length := List.length_pos_iff.mpr (List.ne_nil_of_mem ((ms_mem (raw 0)).mpr ⟨h, 0, hn, rfl⟩))
theorem ms_sorted (hlt : ∀ i, i < n → raw i < 32) {ks : List Nat} {ns' : List Int} (nd : ks.Nodup) (hm : ∀ k, k ∈ ks ↔ ∃ i, i < n ∧ raw i = k) (hp : ns'.Perm (ks.map Int.ofNat)) (hs : ns'.Pairwise (· ≤ ·)) : ns' = (msOf raw n).map Int.ofNat := by
  have h1 : ks.Perm (msOf raw n) := (List.perm_ext_iff_of_nodup nd ms_nd).mpr fun x => by
    rw [hm, ms_mem]
    constructor
    · rintro ⟨i, hi, rfl⟩; exact ⟨hlt i hi, i, hi, rfl⟩
    · rintro ⟨_, h⟩; exact h
  refine List.Perm.eq_of_pairwise (le := (· ≤ ·)) (fun a c _ _ h h' => Int.le_antisymm h h') hs ?_ (hp.trans (h1.map _))
  rw [List.pairwise_map]
  exact (List.pairwise_le_range.filter _).imp fun h => Int.ofNat_le.mpr h
end
theorem fam_ms {s : Nat} (hs : s < 5) {ms : List Nat} (nd : ms.Nodup) (hl : ∀ x ∈ ms, x < 32) : Fam 5 (ms.map (sgns (rot s))) where
  nd := by
    induction ms with
    | nil => exact List.nodup_nil
    | cons x ms ih =>
      have hp := List.nodup_cons.mp nd
      rw [List.map_cons, List.nodup_cons]
      refine ⟨fun hm => ?_, ih hp.2 fun y hy => hl y (.tail _ hy)⟩
      obtain ⟨y, hy, e⟩ := List.mem_map.mp hm
      rw [← sgns_inj hs (hl y (.tail _ hy)) (hl x (.head _)) e] at hp
      exact hp.1 hy
  len := fun r hr => by
    obtain ⟨x, _, rfl⟩ := List.mem_map.mp hr
    unfold sgns; rw [List.length_map, rot_len]

/-! what is shown of a kept set -/
theorem num_bit {os : List Nat} (nd : os.Nodup) (h5 : ∀ o ∈ os, o < 5) : ∀ i, i < 2 ^ os.length → ∀ q, (num os i).testBit q = true → ∃ k, k < os.length ∧ os[k]? = some q ∧ i.testBit (os.length - 1 - k) = true := by
  induction os with
  | nil => intro i _ q h; simp [num] at h
  | cons o os ih =>
    have hp := List.nodup_cons.mp nd
    have ih' := ih hp.2 fun x hx => h5 x (.tail _ hx)
    intro i hi q hq
    rw [List.length_cons, Nat.pow_succ] at hi
    by_cases h : i < 2 ^ os.length
    · rw [num_lo h] at hq
      obtain ⟨k, k1, k2, k3⟩ := ih' i h q hq
      exact ⟨k + 1, by simpa using k1, by simpa using k2, by rw [List.length_cons, show os.length + 1 - 1 - (k + 1) = os.length - 1 - k by (first | lia | omega)]; exact k3⟩
    · obtain ⟨j, rfl⟩ : ∃ j, i = 2 ^ os.length + j := ⟨i - 2 ^ os.length, by (first | lia | omega)⟩
      have hj : j < 2 ^ os.length := by (first | lia | omega)
      rw [num_hi] at hq
      have hk := num_ok hp.2 (fun x hx => h5 x (.tail _ hx)) j
      have hb : (num os j).testBit o = false := by
        cases e : (num os j).testBit o with
        | false => rfl
        | true => exact absurd (hk.2 o e) hp.1
      obtain ⟨h1, h2⟩ := pow_or o (h5 o (.head _)) _ hk.1 hb
      rw [h1, Nat.testBit_or, Nat.testBit_two_pow] at hq
      rcases Bool.or_eq_true _ _ ▸ hq with h' | h'
      · refine ⟨0, by simp, by rw [of_decide_eq_true h']; rfl, ?_⟩
        rw [List.length_cons, show os.length + 1 - 1 - 0 = os.length by (first | lia | omega), Nat.testBit_two_pow_add_eq, Nat.testBit_lt_two_pow hj]; rfl
      · obtain ⟨k, k1, k2, k3⟩ := ih' j hj q h'
        refine ⟨k + 1, by simpa using k1, by simpa using k2, ?_⟩
        rw [List.length_cons, show os.length + 1 - 1 - (k + 1) = os.length - 1 - k by (first | lia | omega), Nat.testBit_two_pow_add_gt (by (first | lia | omega))]; exact k3
noncomputable def pop (ch : Nat) : Nat := ((List.range 5).map fun p => ch / 2 ^ p % 2).sum
theorem subs_len : ∀ ch, ch < 32 → ((List.range 32).filter fun x => x &&& ch == x).length = 2 ^ pop ch := by decide +kernel
theorem shown_len {os ms : List Nat} (hl : os.length = 5) (nd : os.Nodup) (h5 : ∀ o ∈ os, o < 5) (hF : Fam 5 (ms.map (sgns os))) {i : Nat} (hi : i ∈ kept 5 (ms.map (sgns os))) {ks : List Nat} (hk : ks.Nodup)
    (hm : ∀ k, k ∈ ks ↔ ∃ j, j < ms.length ∧ num os i &&& ms.getD j 0 = k) : ks.length = 2 ^ pop (num os i) := by
  have h32 := (num_ok nd h5 i).1
  rw [← subs_len _ h32]
  refine ((List.perm_ext_iff_of_nodup hk (List.nodup_range.sublist List.filter_sublist)).mpr fun x => ?_).length_eq
  rw [hm, List.mem_filter, List.mem_range, beq_iff_eq]
  constructor
  · rintro ⟨j, hj, rfl⟩
    refine ⟨Nat.lt_of_le_of_lt Nat.and_le_left h32, ?_⟩
    rw [Nat.and_assoc, Nat.and_comm (ms.getD j 0), ← Nat.and_assoc, Nat.and_self]
  · rintro ⟨hx, hs⟩
    obtain ⟨f, hf, hfk⟩ := kept_shat 5 _ hF i hi (sgns os x) (by unfold sgns; rw [List.length_map, hl])
    obtain ⟨mm, hmm, rfl⟩ := List.mem_map.mp hf
    obtain ⟨j, hj, rfl⟩ := List.getElem_of_mem hmm
    refine ⟨j, hj, ?_⟩
    rw [List.getD_eq_getElem?_getD, List.getElem?_eq_getElem hj, Option.getD_some]
    apply Nat.eq_of_testBit_eq
    intro q
    rw [Nat.testBit_and]
    cases hc : (num os i).testBit q with
    | false =>
      cases hxq : x.testBit q with
      | false => rfl
      | true => rw [(sub_iff x _).mp hs q hxq] at hc; cases hc
    | true =>
      obtain ⟨k, k1, k2, k3⟩ := num_bit nd h5 i (by rw [hl]; exact kept_lt 5 _ i hi) q hc
      rw [hl] at k1 k3
      have := hfk k k1 k3
      unfold sgns at this
      rw [List.getElem?_map, List.getElem?_map, k2] at this
      exact Option.some.inj this
theorem glue_nil (g : Nat → Nat) : ∀ l : List Nat, glue [] (l.map fun x => [g x]) = l.map g
  | [] => rfl
  | [x] => rfl
  | x :: y :: l => by
    rw [List.map_cons, glue_cons (by simp), glue_nil g (y :: l)]; rfl
theorem join_row (os : List Nat) (m : Nat) : Txt.join (Mine.S []) (os.map fun o => if m.testBit o then Mine.S [46] else Mine.S [97]) = strOf (sgns os m) := by
  have e : (os.map fun o => if m.testBit o then Mine.S [46] else Mine.S [97]) = (os.map fun o => [sgn (m.testBit o)]).map Mine.S := by
    rw [List.map_map]
    apply List.map_congr_left
    intro o _
    show _ = Mine.S [sgn (m.testBit o)]
    cases m.testBit o <;> rfl
  rw [e, join_glue, glue_nil fun o => sgn (m.testBit o)]
  unfold strOf rowC sgns
  rw [List.map_map]; rfl
end Mine
open PySem PySem.Calls PyProof.Rows PySem.W
set_option Elab.async false
set_option autoImplicit false
set_option linter.unusedVariables false
set_option maxRecDepth 20000
namespace Mine
section
variable {S : Sys} {sc : Scope} {ns : List Str} {base : Heap} {env : Env} {s s' s0 : Shared} {ρ ρ' : Ro} {rt : Nat → Addr} {b : Bool} {d : Nat} {q : Md} {p p1 p2 p' : PV} {mg mb : Str → Option Value}
noncomputable abbrev lawNs : List Str := ["script", "numbers", "size", "members", "order", "end", "width", "places", "rows", "member", "words", "kept", "chosen", "terms"]
noncomputable def placesOf (os : List Nat) : List Str := os.map fun o => pf (2 ^ o)
theorem ints_get {l : List Nat} {k : Nat} (h : k < l.length) : ((l.map Int.ofNat).map PV.int)[k]? = some (.int (l.getD k 0 : Nat)) := by
  rw [List.getElem?_map, List.getElem?_map, List.getElem?_eq_getElem h, List.getD_eq_getElem?_getD, List.getElem?_eq_getElem h]; rfl
theorem pf_size : ∀ y, y < 32 → (pf y).length < 100 ∧ (litOf y).length < 100 := by decide +kernel

noncomputable abbrev lawRo (vs nums : List Int) (sz : Nat) (ms os : List Nat) (ek w : Nat) (F : List (List Bool)) : Ro := [some (.ints vs, .imm), some (.ints nums, .imm), some (.int sz, .imm), some (.ints (ms.map Int.ofNat), .imm), some (.ints (os.map Int.ofNat), .imm), some (.str (Mine.S (endOf ek)), .imm), some (.int (w : Int), .imm), some (.strs (placesOf os), .imm), some (.strs (F.map strOf), .mut), none, none, none, none, none]
set_option maxHeartbeats 2000000 in
theorem law_head {vs nums : List Int} {sz sn w ek : Nat} {raw : Nat → Nat} {ms : List Nat} {F : List (List Bool)} {aN aF : Addr} {fN fF : FuncData} (W : S.Ok mg mb) (B : Bn mg)
    (TN : TopFn S mg 18 aN fN) (TF : TopFn S mg 11 aF fF)
    (mN : mg "_law_numbers" = some (.ref aN)) (mF : mg "pretty_flags" = some (.ref aF))
    (hv : vs.length < 2 ^ 20) (hnl : nums.length = 8) (hsz : sz = if vs.length < 4 then 5 else 7)
    (hraw : ∀ i, (nums.getD i 0).fmod 32 = (raw i : Int) ∧ raw i < 32) (hms : ms = msOf raw sz)
    (hsn : sn < 5) (hord : ∀ k : Nat, (nums.getD 7 0 + k).fmod 5 = (((sn + k) % 5 : Nat) : Int)) (hF : F = ms.map (sgns (rot sn)))
    (hek : ((nums.getD 7 0).fdiv 5).fmod 3 = (ek : Int) ∧ ek < 3) (hw : ((nums.getD 7 0).fdiv 15).fmod 8 = ((w - 10 : Nat) : Int)) (hw1 : 10 ≤ w) (hw2 : w ≤ 17)
    (cN : CallOk S false d (.ref aN) [.ints vs, .ints [3, 7, 16, 17, 21, 10, 12, 0]] (.ints nums))
    (cF : ∀ {b : Bool} {x : Nat}, x < 32 → CallOk S b d (.ref aF) [.int x] (.str (pf x)))
    (tail : Sx S (stScope (topAt 22)) lawNs false d (lawRo vs nums sz ms (rot sn) ek w F) ((stBody (topAt 22)).drop 9) (fun o => o = .ret (.bool true))) :
    Sx S (stScope (topAt 22)) lawNs false d [some (.ints vs, .imm), none, none, none, none, none, none, none, none, none, none, none, none, none] (stBody (topAt 22)) (fun o => o = .ret (.bool true)) := by
  obtain ⟨os, hos⟩ : ∃ os, os = rot sn := ⟨_, rfl⟩
  have hol : os.length = 5 := hos ▸ rot_len sn
  obtain ⟨ond, o5, _⟩ := rot_nd sn hsn
  rw [← hos] at ond o5 hF tail
  have hsz7 : sz ≤ 7 := by rw [hsz]; split <;> (first | lia | omega)
  have hsz0 : 0 < sz := by rw [hsz]; split <;> (first | lia | omega)
  have hlt : ∀ i, i < sz → raw i < 32 := fun i _ => (hraw i).2
  have mlt : ∀ x ∈ ms, x < 32 := hms ▸ ms_lt
  have mnd : ms.Nodup := hms ▸ ms_nd
  have mlen : ms.length ≤ 7 := by have := ms_len (raw := raw) (n := sz); rw [← hms] at this; (first | lia | omega)
  have hfam : Fam 5 F := by rw [hF, hos]; exact fam_ms hsn mnd mlt
  have hFl : F.length = ms.length := by rw [hF, List.length_map]
  have mget : ∀ j, j < ms.length → ms.getD j 0 ∈ ms := fun j hj => by rw [List.getD_eq_getElem?_getD, List.getElem?_eq_getElem hj]; exact List.getElem_mem hj
  -- numbers
  refine Sx.cons (S1.assign (p := .ints nums) 1 rfl (Ev.call (q1 := .R) (.glob W rfl mN) (TN.callee W) (Evs.cons (Ev.var 0 rfl rfl rfl) (Evs.cons (p := .ints [3, 7, 16, 17, 21, 10, 12, 0]) (Ev.list (Evs.cons Ev.cint (Evs.cons Ev.cint (Evs.cons Ev.cint (Evs.cons Ev.cint (Evs.cons Ev.cint (Evs.cons Ev.cint (Evs.cons Ev.cint (Evs.cons Ev.cint Evs.nil))))))))) Evs.nil)) cN) ?_ (by decide) (by decide))
  -- size
  refine Sx.cons (S1.assign (p := .int sz) 2 rfl (Ev.ite (c := decide ((vs.length : Int) < 4)) (Tr.cmp (q1 := .R) (q2 := .R) (Ev.call (q1 := .R) (.blt W rfl B.len rfl (by decide)) (.blt _) (Evs.cons (Ev.var 0 rfl rfl rfl) Evs.nil) ((c_lenList (by rw [List.length_map]; (first | lia | omega))).to (p' := .int (vs.length : Nat)) (by rw [List.length_map]))) Ev.cint o_lt) (fun h => ?_) (fun h => ?_)) ?_ (by decide) (by decide))
  · have h4 : vs.length < 4 := by have := of_decide_eq_true h; (first | lia | omega)
    rw [if_pos h4] at hsz; subst hsz; exact Ev.cint
  · have h4 : ¬ vs.length < 4 := by have := of_decide_eq_false h; (first | lia | omega)
    rw [if_neg h4] at hsz; subst hsz; exact Ev.cint
  -- members
  refine Sx.cons (S1.assign (p := .ints (ms.map Int.ofNat)) 3 rfl (Ev.sortedSet (.blt W rfl B.sorted rfl (by decide)) (Es.comp (items := (List.range sz).map fun (i : Nat) => PV.int (i : Int)) (f := onNat .none fun i => .int (raw i : Int)) raw [1] ⟨by decide, rfl, rfl, rfl, rfl, rfl, rfl⟩
    (It.rangeN (q1 := .R) (.blt W rfl B.range rfl (by decide)) (Ev.var 2 rfl rfl rfl) (by (first | lia | omega))) (atoms_range sz) (by rw [List.length_map, List.length_range]; (first | lia | omega)) (fun p hp => ?_) (fun p hp => ?_) (fun i p hi => ?_)) (fun ks ns' hk hp hs => ?_)) ?_ (by decide) (by decide))
  · obtain ⟨i, hi, rfl⟩ := List.mem_map.mp hp
    have hi' := List.mem_range.mp hi
    exact Ev.op2 (q1 := .R) (q2 := .R) (Ev.idxA (q0 := .R) (q1 := .R) (k := (i : Int)) (Ev.var 1 rfl rfl rfl) (Ev.var 0 rfl rfl rfl) (by (first | lia | omega)) (by (first | lia | omega)) (by rw [Int.toNat_natCast]; exact get_ints (by (first | lia | omega))) rfl) Ev.cint ((o_mod (by decide)).to (hraw i).1)
  · obtain ⟨i, hi, rfl⟩ := List.mem_map.mp hp
    rfl
  · obtain ⟨hi', rfl⟩ := range_get hi
    exact ⟨rfl, hlt i hi'⟩
  · rw [hms]
    refine ms_sorted hlt hk.1 (fun k => ?_) hp hs
    rw [hk.2, List.length_map, List.length_range]
  -- order
  refine Sx.cons (S1.assignCompR (n := 5) (t := fun _ => true) (f := fun k => .int (((sn + k) % 5 : Nat) : Int)) .imm 4 rfl [1] ⟨by decide, rfl, rfl, rfl, rfl, rfl, rfl⟩ (It.rangeN (q1 := .R) (.blt W rfl B.range rfl (by decide)) Ev.cint (by decide)) (by simp only [sizeLine]; (first | lia | omega)) (fun k hk => .nil) (fun k hk _ => ?_) (fun k _ _ => rfl) ?_ (by decide) rfl)
  · exact Ev.op2 (q1 := .R) (q2 := .R) (Ev.op2 (q1 := .R) (q2 := .R) (Ev.idxA (q0 := .R) (q1 := .R) (k := 7) (Ev.var 1 rfl rfl rfl) Ev.cint (by decide) (by decide) (get_ints (k := 7) (by (first | lia | omega))) rfl) (Ev.var 0 rfl rfl rfl) o_add) Ev.cint ((o_mod (by decide)).to (hord k))
  have eord : PV.list (((List.range 5).filter fun _ => true).map fun k => PV.int (((sn + k) % 5 : Nat) : Int)) = .ints (os.map Int.ofNat) := by
    rw [List.filter_eq_self.mpr fun _ _ => rfl, hos, rot, PV.ints, List.map_map, List.map_map]; rfl
  rw [eord]
  -- end
  refine Sx.cons (S1.assign (p := .str (Mine.S (endOf ek))) 5 rfl (Ev.idxA (q0 := .R) (q1 := .R) (k := ((nums.getD 7 0).fdiv 5).fmod 3) (Ev.list (Evs.cons Ev.cstr (Evs.cons Ev.cstr (Evs.cons Ev.cstr Evs.nil))))
    (Ev.op2 (q1 := .R) (q2 := .R) (Ev.op2 (q1 := .R) (q2 := .R) (Ev.idxA (q0 := .R) (q1 := .R) (k := 7) (Ev.var 1 rfl rfl rfl) Ev.cint (by decide) (by decide) (get_ints (k := 7) (by (first | lia | omega))) rfl) Ev.cint (o_fdiv (by decide) (by decide))) Ev.cint (o_mod (by decide))) (by (first | lia | omega)) (by (first | lia | omega)) ?_ rfl) ?_ (by decide) (by decide))
  · rw [hek.1, Int.toNat_natCast]
    have : ek = 0 ∨ ek = 1 ∨ ek = 2 := by (first | lia | omega)
    rcases this with h | h | h <;> subst h <;> rfl
  -- width
  refine Sx.cons (S1.assign (p := .int (w : Int)) 6 rfl (Ev.op2 (q1 := .R) (q2 := .R) (p2 := .int ((w - 10 : Nat) : Int)) Ev.cint (Ev.op2 (q1 := .R) (q2 := .R) (Ev.op2 (q1 := .R) (q2 := .R) (Ev.idxA (q0 := .R) (q1 := .R) (k := 7) (Ev.var 1 rfl rfl rfl) Ev.cint (by decide) (by decide) (get_ints (k := 7) (by (first | lia | omega))) rfl) Ev.cint (o_fdiv (by decide) (by decide))) Ev.cint ((o_mod (by decide)).to hw)) (o_add.to (by (first | lia | omega)))) ?_ (by decide) (by decide))
  -- places
  refine Sx.cons (S1.assignComp (items := (os.map Int.ofNat).map PV.int) (tst := onInt false fun _ => true) (f := onInt .none fun i => .str (pf (2 ^ i.toNat))) .imm 7 rfl [] ⟨by decide, rfl, rfl, rfl, rfl, rfl, rfl⟩ (It.list (Ev.var 4 rfl rfl rfl) (atoms_ints _)) (atoms_ints _) (by simp only [sizeLine, List.length_map]; (first | lia | omega)) (fun x hx => ?_) (fun x hx _ => ?_) (fun x hx _ => ?_) ?_ (by decide) rfl)
  · obtain ⟨i, _, rfl⟩ := List.mem_map.mp hx
    exact .nil
  · obtain ⟨i, hi, rfl⟩ := List.mem_map.mp hx
    obtain ⟨o, ho, rfl⟩ := List.mem_map.mp hi
    refine Ev.call (q1 := .R) (.glob W rfl mF) (TF.callee W) (Evs.cons (p := .int ((2 ^ o : Nat) : Int)) (Ev.op2 (q1 := .R) (q2 := .R) Ev.cint (Ev.var 0 rfl rfl rfl) ((o_pow2 (j := o) (by have := o5 o ho; (first | lia | omega))).to (by rw [Int.natCast_pow]; rfl))) Evs.nil) (cF ?_)
    exact Nat.lt_of_lt_of_le (Nat.pow_lt_pow_right (by decide) (o5 o ho)) (by decide)
  · obtain ⟨i, _, rfl⟩ := List.mem_map.mp hx
    rfl
  rw [filt_map PV.int _ _ (fun _ => true) (fun i => .str (pf (2 ^ i.toNat))) (fun _ => rfl) (fun _ => rfl), List.filter_eq_self.mpr fun _ _ => rfl, show (os.map Int.ofNat).map (fun i => PV.str (pf (2 ^ i.toNat))) = (placesOf os).map PV.str from by unfold placesOf; rw [List.map_map, List.map_map]; rfl]
  -- rows
  refine Sx.cons (S1.assignOwn (p := .list []) 8 rfl (Ev.list Evs.nil) rfl ?_ (by decide) (by decide))
  refine Sx.cons (S1.for 9 rfl (It.list (Ev.var 3 rfl rfl rfl) (atoms_ints _))
    (fun j => [some (.ints vs, .imm), some (.ints nums, .imm), some (.int sz, .imm), some (.ints (ms.map Int.ofNat), .imm), some (.ints (os.map Int.ofNat), .imm), some (.str (Mine.S (endOf ek)), .imm), some (.int (w : Int), .imm), some (.strs (placesOf os), .imm), some (.strs ((F.take j).map strOf), .mut), none, none, none, none, none]) Le.refl ?_ ?_ (by decide) (by decide))
  · intro j p hj
    obtain ⟨hj', rfl⟩ := items_ints hj
    clear hj
    rw [List.length_map] at hj'
    have hjF : j < F.length := by (first | lia | omega)
    rw [List.getElem_map]
    obtain ⟨m, hm⟩ : ∃ m, m = ms[j] := ⟨_, rfl⟩
    have hm32 : m < 32 := hm ▸ mlt _ (List.getElem_mem hj')
    have hfj : F[j] = sgns os m := by simp only [hF, List.getElem_map, hm]
    rw [← hm]
    obtain ⟨z1, z2⟩ := pf_size m hm32
    refine Sx.cons (S1.assign (p := .strs (litOf m)) 10 rfl (Ev.meth (q0 := .R) (q1 := .R) (p1 := .str (pf m)) PySem.F.plainAttrs_str PySem.F.slot_str_split PySem.F.type_str_split
      (Ev.call (q1 := .R) (.glob W rfl mF) (TF.callee W) (Evs.cons (p := .int (m : Nat)) (Ev.var 9 rfl rfl rfl) Evs.nil) (cF hm32))
      (fun s v fp r => by (first | obtain ⟨_, rfl, rfl⟩ := r.inv | cases r); exact ⟨rfl, fun a h => by cases h⟩) (Evs.cons Ev.cstr Evs.nil) (c_split rfl (split_pf m hm32) (by simp only [sizeLine]; (first | lia | omega)) (by simp only [sizeLine]; (first | lia | omega)))) ?_ (by decide) (by decide))
    have hjl : (((os.map fun o => if m.testBit o then Mine.S [46] else Mine.S [97])).map (·.length)).sum + (os.map fun o => if m.testBit o then Mine.S [46] else Mine.S [97]).length * (Mine.S []).length ≤ 16777216 := by
      have h1 : ∀ l : List Nat, ((l.map fun o => if m.testBit o then Mine.S [46] else Mine.S [97]).map (·.length)).sum ≤ l.length := by
        intro l
        induction l with
        | nil => simp
        | cons x l ih =>
          have : (if m.testBit x then Mine.S [46] else Mine.S [97]).length = 1 := by cases m.testBit x <;> rfl
          simp only [List.map_cons, List.sum_cons, List.length_cons, this]; (first | lia | omega)
      have := h1 os
      have e0 : (Mine.S []).length = 0 := rfl
      rw [e0]; (first | lia | omega)
    refine Sx.cons (S1.append (p := .str (strOf F[j])) 8 rfl rfl (Ev.meth (q0 := .R) (q1 := .R) (p1 := .str (Mine.S [])) PySem.F.plainAttrs_str PySem.F.slot_str_join PySem.F.type_str_join Ev.cstr (fun s v fp r => by (first | obtain ⟨_, rfl, rfl⟩ := r.inv | cases r); exact ⟨rfl, fun a h => by cases h⟩)
      (Evs.cons (p := .strs (os.map fun o => if m.testBit o then Mine.S [46] else Mine.S [97])) (Ev.cast (Ev.compS (l := placesOf os) (t := fun _ => true) (f := fun x => .str (if (litOf m).any (· == x) then Mine.S [46] else Mine.S [97])) [10] ⟨by decide, rfl, rfl, rfl, rfl, rfl, rfl⟩ (It.list (Ev.var 7 rfl rfl rfl) (atoms_strs _)) (by unfold placesOf; simp only [sizeLine, List.length_map]; (first | lia | omega)) (fun x hx => .nil) (fun x hx _ => ?_) (fun x hx _ => rfl)) ?_) Evs.nil) ((c_join hjl).to (congrArg PV.str (by rw [hfj]; exact join_row os m)))) (flat_atoms (by rw [List.all_append, atoms_strs]; rfl)) (by simp only [List.length_map, List.length_take, sizeLine]; (first | lia | omega)) ?_)
    · refine Ev.ite (Tr.cmp (q1 := .R) (q2 := .R) (Ev.var 0 rfl rfl rfl) (Ev.var 1 rfl rfl rfl) o_inStrs) (fun h => ?_) (fun h => ?_)
      · rw [h]; exact Ev.cstr
      · rw [h]; exact Ev.cstr
    · rw [List.filter_eq_self.mpr fun _ _ => rfl, placesOf, PV.strs, List.map_map, List.map_map]
      apply congrArg
      apply List.map_congr_left
      intro o ho
      show PV.str (if (litOf m).any (· == pf (2 ^ o)) = true then _ else _) = PV.str _
      rw [lit_any m hm32 o (o5 o ho)]
    · refine Sx.nil ?_
      show Le [some (.ints vs, .imm), some (.ints nums, .imm), some (.int sz, .imm), some (.ints (ms.map Int.ofNat), .imm), some (.ints (os.map Int.ofNat), .imm), some (.str (Mine.S (endOf ek)), .imm), some (.int (w : Int), .imm), some (.strs (placesOf os), .imm), some (.strs ((F.take (j + 1)).map strOf), .mut), none, none, none, none, none] _
      have e3 : PV.strs ((F.take (j + 1)).map strOf) = .list (((F.take j).map strOf).map .str ++ [.str (strOf F[j])]) := by rw [take_snoc hjF, List.map_append, PV.strs, List.map_append]; rfl
      rw [e3]
      exact (Le.same (Le.same (Le.same (Le.same (Le.same (Le.same (Le.same (Le.same (Le.same (Le.drop (Le.drop (Le.drop (Le.drop (Le.drop Le.nil))))))))))))))
  refine Sx.nil ?_
  have e1 : ((ms.map Int.ofNat).map PV.int).length = F.length := by simp [hFl]
  show Sx S _ _ false d [some (.ints vs, .imm), some (.ints nums, .imm), some (.int sz, .imm), some (.ints (ms.map Int.ofNat), .imm), some (.ints (os.map Int.ofNat), .imm), some (.str (Mine.S (endOf ek)), .imm), some (.int (w : Int), .imm), some (.strs (placesOf os), .imm), some (.strs ((F.take ((ms.map Int.ofNat).map PV.int).length).map strOf), .mut), none, none, none, none, none] _ _
  rw [e1, List.take_length]
  exact tail
end
end Mine
open PySem PySem.Calls PyProof.Rows PySem.W
set_option Elab.async false
set_option autoImplicit false
set_option linter.unusedVariables false
set_option maxRecDepth 20000
namespace Mine
section
variable {S : Sys} {sc : Scope} {ns : List Str} {base : Heap} {env : Env} {s s' s0 : Shared} {ρ ρ' : Ro} {rt : Nat → Addr} {b : Bool} {d : Nat} {q : Md} {p p1 p2 p' : PV} {mg mb : Str → Option Value}
noncomputable abbrev lawRo2 (vs nums : List Int) (sz : Nat) (ms os : List Nat) (ek w : Nat) (F : List (List Bool)) (r : Ro) : Ro := [some (.ints vs, .imm), some (.ints nums, .imm), some (.int sz, .imm), some (.ints (ms.map Int.ofNat), .imm), some (.ints (os.map Int.ofNat), .imm), some (.str (Mine.S (endOf ek)), .imm), some (.int (w : Int), .imm), some (.strs (placesOf os), .imm), some (.strs (F.map strOf), .mut), none, none, some (.ints ((keptN os F).map Int.ofNat), .imm)] ++ r
theorem pop_sum (ch : Nat) : (((List.range 5).map fun p => ((ch / 2 ^ p % 2 : Nat) : Int)).sum) = (pop ch : Int) := by
  unfold pop
  have : ∀ l : List Nat, (l.map fun p => ((ch / 2 ^ p % 2 : Nat) : Int)).sum = ((l.map fun p => ch / 2 ^ p % 2).sum : Nat) := by
    intro l
    induction l with
    | nil => rfl
    | cons x l ih => rw [List.map_cons, List.map_cons, List.sum_cons, List.sum_cons, ih, Int.natCast_add]
  exact this _
theorem pop_le : ∀ ch, ch < 32 → pop ch ≤ 5 := by decide +kernel

set_option maxHeartbeats 2000000 in
theorem law_tail {vs nums : List Int} {sz ek w : Nat} {ms os : List Nat} {F : List (List Bool)} {δ : Int} {aK aE aT : Addr} {fK fE fT : FuncData} (W : S.Ok mg mb) (B : Bn mg)
    (TK : TopFn S mg 19 aK fK) (TE : TopFn S mg 20 aE fE) (TT : TopFn S mg 21 aT fT)
    (mK : mg "_law_kept" = some (.ref aK)) (mE : mg "_law_earliest" = some (.ref aE)) (mT : mg "_law_determinant" = some (.ref aT))
    (hol : os.length = 5) (ond : os.Nodup) (o5 : ∀ o ∈ os, o < 5) (mlt : ∀ x ∈ ms, x < 32) (mlen : ms.length ≤ 7) (hfam : Fam 5 F) (hF : F = ms.map (sgns os)) (hek : ek < 3) (hw1 : 10 ≤ w) (hw2 : w ≤ 17) (hδ : Unit1 δ)
    (cK : ∀ en, isEnd en → CallOk S false d (.ref aK) [.strs (F.map strOf), .ints (os.map Int.ofNat), .str (Mine.S en)] (.ints ((keptN os F).map Int.ofNat)))
    (cE : CallOk S false d (.ref aE) [.ints (ms.map Int.ofNat), .ints (os.map Int.ofNat)] (.ints ((keptN os F).map Int.ofNat)))
    (cT : CallOk S false d (.ref aT) [.ints ((List.range F.length).map fun t => pk w F (term0 5 F t)), .int w] (.int δ)) :
    Sx S (stScope (topAt 22)) lawNs false d (lawRo vs nums sz ms os ek w F) ((stBody (topAt 22)).drop 9) (fun o => o = .ret (.bool true)) := by
  have hFl : F.length = ms.length := by rw [hF, List.length_map]
  have kl : (keptN os F).length = ms.length := by unfold keptN; rw [List.length_map, kept_len, hFl]
  have elen : ∀ {ρ : Ro} {ns : List Str} {q : Md} {e : Expr} {np pos : Pos} {l : List Nat} {sc : Scope} {b : Bool}, sc.names.lookup ("len" : Str) = some .globalImplicit → Ev S sc ns b d .R ρ e (.ints (l.map Int.ofNat)) → l.length ≤ 7 → (∀ env, starEach [e] env = (false, eval e env) :: starEach [] env) → (∀ env, (backTo pos (starEach [e] env)).any (·.1) = false) → Ev S sc ns b d q ρ (.Call (.Name "len" np) [e] [] pos) (.int (l.length : Int)) :=
    fun hsc he hl h1 h2 => Ev.call (q1 := .R) (.blt W hsc B.len rfl (by decide)) (.blt _) (Evs.cons he Evs.nil h1) ((c_lenList (by simp only [List.length_map]; (first | lia | omega))).to (by simp only [List.length_map])) (by decide) h1 h2
  -- kept
  refine Sx.cons (S1.assign (p := .ints ((keptN os F).map Int.ofNat)) 11 rfl (Ev.frozen 8 rfl (by intro h; cases h) (Ev.call (q1 := .R) (.glob W rfl mK) (TK.callee W) (Evs.cons (Ev.var 8 rfl rfl rfl) (Evs.cons (Ev.var 4 rfl rfl rfl) (Evs.cons (Ev.var 5 rfl rfl rfl) Evs.nil))) (cK _ (endOf_is ek hek)))) ?_ (by decide) (by decide))
  refine Sx.cons (S1.if (c := false) (Tr.cast (Tr.cmp (q1 := .R) (q2 := .R) (elen rfl (Ev.var 11 rfl rfl rfl) (by (first | lia | omega)) (by intro _; rfl) (by intro _; rfl)) (elen rfl (Ev.var 3 rfl rfl rfl) mlen (by intro _; rfl) (by intro _; rfl)) o_ne) (by rw [kl]; simp)) (fun hc => by cases hc) (fun _ => Sx.nil ?_))
  -- what each shows
  refine Sx.cons (S1.for 12 rfl (It.list (Ev.var 11 rfl rfl rfl) (atoms_ints _)) (fun _ => lawRo2 vs nums sz ms os ek w F [none, none]) Le.refl ?_ ?_ (by decide) (by decide))
  · intro j p hj
    obtain ⟨hj', rfl⟩ := items_ints hj
    clear hj
    rw [List.length_map] at hj'
    rw [List.getElem_map]
    obtain ⟨ch, hch⟩ : ∃ ch, ch = (keptN os F)[j] := ⟨_, rfl⟩
    rw [← hch]
    obtain ⟨i, hi, rfl⟩ : ∃ i, i ∈ kept 5 F ∧ num os i = ch := by
      have := hch ▸ List.getElem_mem hj'
      unfold keptN at this
      obtain ⟨i, hi, e⟩ := List.mem_map.mp this
      rw [hol] at hi
      exact ⟨i, hi, e⟩
    have c32 := (num_ok ond o5 i).1
    refine Sx.cons (S1.if (c := false) (Tr.cast (Tr.cmp (q1 := .R) (q2 := .R) (p1 := .int ((2 ^ pop (num os i) : Nat) : Int)) (p2 := .int ((2 ^ pop (num os i) : Nat) : Int))
      (Ev.lenSet (.blt W rfl B.len rfl (by decide)) (Es.comp (items := (ms.map Int.ofNat).map PV.int) (f := onNat .none fun x => .int ((num os i &&& x : Nat) : Int)) (fun j => num os i &&& ms.getD j 0) [12] ⟨by decide, rfl, rfl, rfl, rfl, rfl, rfl⟩ (It.list (Ev.var 3 rfl rfl rfl) (atoms_ints _)) (atoms_ints _) (by simp only [List.length_map]; (first | lia | omega)) (fun p hp => ?_) (fun p hp => ?_) (fun t p hp => ?_)) (fun ks hk => ?_))
      (Ev.op2 (q1 := .R) (q2 := .R) (p2 := .int (pop (num os i) : Int)) Ev.cint (Ev.call (q1 := .R) (ps := [.ints ((List.range 5).map fun p => ((num os i / 2 ^ p % 2 : Nat) : Int))]) (.blt W rfl B.sum rfl (by decide)) (.blt _) (Evs.cons (Ev.cast (Ev.compR (n := 5) (t := fun _ => true) (f := fun p => .int ((num os i / 2 ^ p % 2 : Nat) : Int)) [12] ⟨by decide, rfl, rfl, rfl, rfl, rfl, rfl⟩ (It.rangeN (q1 := .R) (.blt W rfl B.range rfl (by decide)) Ev.cint (by decide)) (by simp only [sizeLine]; (first | lia | omega)) (fun k hk => .nil) (fun k hk _ => ?_) (fun k _ _ => rfl)) ?_) Evs.nil) (c_sum.to (congrArg PV.int (pop_sum _)))) ((o_pow2 (by have := pop_le _ c32; (first | lia | omega))).to (by rw [Int.natCast_pow]; rfl))) o_ne) (by simp)) (fun hc => by cases hc) (fun _ => Sx.nil ?_))
    · obtain ⟨x, hx, rfl⟩ := List.mem_map.mp hp
      obtain ⟨m, hm, rfl⟩ := List.mem_map.mp hx
      exact Ev.op2 (q1 := .R) (q2 := .R) (Ev.var 1 rfl rfl rfl) (Ev.var 0 rfl rfl rfl) (o_and.to (bitAnd_nat _ _))
    · obtain ⟨x, hx, rfl⟩ := List.mem_map.mp hp
      rfl
    · obtain ⟨ht, rfl⟩ := items_ints hp
      rw [List.length_map] at ht
      refine ⟨?_, Nat.lt_of_le_of_lt Nat.and_le_left c32⟩
      rw [List.getElem_map, List.getD_eq_getElem?_getD, List.getElem?_eq_getElem ht]; rfl
    · refine shown_len hol ond o5 (hF ▸ hfam) (hF ▸ hi) hk.1 fun k => ?_
      rw [hk.2, List.length_map, List.length_map]
    · refine Ev.op2 (q1 := .R) (q2 := .R) (Ev.op2 (q1 := .R) (q2 := .R) (p := .int ((num os i / 2 ^ k : Nat) : Int)) (Ev.var 1 rfl rfl rfl) (Ev.var 0 rfl rfl rfl) ((o_shr (by (first | lia | omega))).to ?_)) Ev.cint (o_and.to ?_)
      · rw [Int.toNat_natCast, Int.fdiv_eq_ediv_of_nonneg _ (Int.le_of_lt (Int.pow_pos (by decide))), Int.natCast_ediv, Int.natCast_pow]; rfl
      · rw [show (1 : Int) = ((1 : Nat) : Int) from rfl, bitAnd_nat, Nat.and_one_is_mod]
    · rw [List.filter_eq_self.mpr fun _ _ => rfl, PV.ints, List.map_map]; rfl
    · refine Sx.nil ?_
      exact (Le.same (Le.same (Le.same (Le.same (Le.same (Le.same (Le.same (Le.same (Le.same (Le.same (Le.same (Le.same (Le.drop (Le.drop Le.nil))))))))))))))
  refine Sx.nil ?_
  -- the earliest
  refine Sx.cons (S1.if (c := false) (Tr.cast (Tr.cmp (q1 := .R) (q2 := .R) (p1 := .ints ((keptN os F).map Int.ofNat)) (p2 := .ints ((keptN os F).map Int.ofNat)) (Ev.var 11 rfl rfl rfl) (Ev.call (q1 := .R) (.glob W rfl mE) (TE.callee W) (Evs.cons (Ev.var 3 rfl rfl rfl) (Evs.cons (Ev.var 4 rfl rfl rfl) Evs.nil)) cE) o_lne) (by simp)) (fun hc => by cases hc) (fun _ => Sx.nil ?_))
  -- terms
  refine Sx.cons (S1.assignOwn (p := .list []) 13 rfl (Ev.list Evs.nil) rfl ?_ (by decide) (by decide))
  refine Sx.cons (S1.for 12 rfl (It.list (Ev.var 11 rfl rfl rfl) (atoms_ints _)) (fun j => lawRo2 vs nums sz ms os ek w F [none, some (.ints ((List.range j).map fun t => pk w F (term0 5 F t)), .mut)]) Le.refl ?_ ?_ (by decide) (by decide))
  · intro j p hj
    obtain ⟨hj', rfl⟩ := items_ints hj
    clear hj
    rw [List.length_map] at hj'
    rw [List.getElem_map]
    obtain ⟨i, hi⟩ : ∃ i, i = (kept 5 F).getD j 0 := ⟨_, rfl⟩
    have hjk : j < (kept 5 F).length := by rw [kept_len]; (first | lia | omega)
    have hch : (keptN os F)[j] = num os i := by
      have e : (keptN os F)[j]? = some (num os i) := by
        unfold keptN
        rw [List.getElem?_map, hol, List.getElem?_eq_getElem hjk, hi, List.getD_eq_getElem?_getD, List.getElem?_eq_getElem hjk]; rfl
      rw [List.getElem?_eq_getElem hj'] at e
      exact Option.some.inj e
    rw [hch]
    have c32 := (num_ok ond o5 i).1
    have et : term0 5 F j = fun f => ind (inc 5 i f) := by unfold term0; rw [← hi]
    refine Sx.cons (S1.append (p := .int (pk w F (term0 5 F j))) 13 rfl rfl (Ev.call (q1 := .R) (ps := [.ints (((List.range F.length).filter fun t => inc 5 i (F.getD t [])).map fun t => (2 : Int) ^ (w * t))]) (.blt W rfl B.sum rfl (by decide)) (.blt _)
      (Evs.cons (Ev.cast (Ev.compR (n := F.length) (t := fun t => inc 5 i (F.getD t [])) (f := fun t => .int ((2 : Int) ^ (w * t))) [12, 3, 6] ⟨by decide, rfl, rfl, rfl, rfl, rfl, rfl⟩
        (It.rangeN (q1 := .R) (.blt W rfl B.range rfl (by decide)) (Ev.cast (elen rfl (Ev.var 3 rfl rfl rfl) mlen (by intro _; rfl) (by intro _; rfl)) (by rw [hFl])) (by (first | lia | omega))) (by simp only [sizeLine]; (first | lia | omega)) (fun k hk => .one ?_) (fun k hk _ => ?_) (fun k _ _ => rfl)) ?_) Evs.nil) (c_sum.to ?_)) (flat_atoms (by rw [List.all_append, atoms_ints]; rfl)) (by simp only [List.length_map, List.length_range, sizeLine]; (first | lia | omega)) ?_)
    · have hk' : k < ms.length := by (first | lia | omega)
      refine Tr.cast (Tr.cmp (q1 := .R) (q2 := .R) (p1 := .int ((num os i &&& ms.getD k 0 : Nat) : Int)) (p2 := .int (num os i : Int)) (Ev.op2 (q1 := .R) (q2 := .R) (Ev.var 1 rfl rfl rfl) (Ev.idxA (q0 := .R) (q1 := .R) (k := (k : Int)) (p := .int ((ms.getD k 0 : Nat) : Int)) (Ev.var 2 rfl rfl rfl) (Ev.var 0 rfl rfl rfl) (by (first | lia | omega)) (by (first | lia | omega)) (by rw [Int.toNat_natCast]; exact ints_get hk') rfl) (o_and.to (bitAnd_nat _ _))) (Ev.var 1 rfl rfl rfl) o_eq) ?_
      rw [hF, List.getD_eq_getElem?_getD (l := ms.map (sgns os)), List.getElem?_map, List.getElem?_eq_getElem hk', List.getD_eq_getElem?_getD, List.getElem?_eq_getElem hk']
      show _ = inc 5 i (sgns os ms[k])
      have hns := num_sub ond o5 ms[k] i
      rw [hol] at hns
      rw [← hns, Option.getD_some, Bool.eq_iff_iff, beq_iff_eq, decide_eq_true_eq]
      (first | lia | omega)
    · refine Ev.op2 (q1 := .R) (q2 := .R) (p2 := .int ((w * k : Nat) : Int)) Ev.cint (Ev.op2 (q1 := .R) (q2 := .R) (Ev.var 3 rfl rfl rfl) (Ev.var 0 rfl rfl rfl) ((o_mul (IntMulOk.of_left (Nat.le_trans (bits_lt (x := w) (B := 5) (by (first | lia | omega))) (by decide)))).to (by rw [Int.natCast_mul]))) (o_pow2 ?_)
      exact Nat.le_trans (Nat.mul_le_mul hw2 (show k ≤ 7 by (first | lia | omega))) (by decide)
    · rw [PV.ints, List.map_map]; rfl
    · rw [et, pk_sum (w := w) (fun f => inc 5 i f)]
    · refine Sx.nil ?_
      show Le (lawRo2 vs nums sz ms os ek w F [none, some (.ints ((List.range (j + 1)).map fun t => pk w F (term0 5 F t)), .mut)]) _
      have e3 : PV.ints ((List.range (j + 1)).map fun t => pk w F (term0 5 F t)) = .list (((List.range j).map fun t => pk w F (term0 5 F t)).map .int ++ [.int (pk w F (term0 5 F j))]) := by
        rw [List.range_succ, List.map_append, PV.ints, List.map_append]; rfl
      rw [e3]
      exact (Le.same (Le.same (Le.same (Le.same (Le.same (Le.same (Le.same (Le.same (Le.same (Le.same (Le.same (Le.same (Le.drop (Le.same Le.nil))))))))))))))
  refine Sx.nil ?_
  have e1 : (((keptN os F).map Int.ofNat).map PV.int).length = F.length := by rw [List.length_map, List.length_map, kl, hFl]
  show Sx S _ _ false d (lawRo2 vs nums sz ms os ek w F [none, some (.ints ((List.range (((keptN os F).map Int.ofNat).map PV.int).length).map fun t => pk w F (term0 5 F t)), .mut)]) _ _
  rw [e1]
  have hres : ([1, -1] : List Int).any (· == δ) = true := by rcases hδ with h | h <;> subst h <;> rfl
  refine Sx.cons (S1.ret (p := .bool true) (Ev.cast (Ev.frozen 13 rfl (by intro h; cases h) (Ev.cmp (q1 := .R) (q2 := .R) (p2 := .ints [1, -1]) (Ev.call (q1 := .R) (.glob W rfl mT) (TT.callee W) (Evs.cons (Ev.var 13 rfl rfl rfl) (Evs.cons (Ev.var 6 rfl rfl rfl) Evs.nil)) cT) (Ev.list (Evs.cons Ev.cint (Evs.cons (p := .int (-1)) (Ev.un (q1 := .R) Ev.cint (Op1.to o_neg rfl)) Evs.nil)) (by simp [sizeLine])) o_inInts)) (congrArg PV.bool hres)) rfl)
end
end Mine
open PySem PySem.Calls PyProof.Rows PySem.W
set_option Elab.async false
set_option autoImplicit false
set_option linter.unusedVariables false
set_option maxRecDepth 20000
namespace Mine

structure Tops2 (S : Sys) (mg mb : Str → Option Value) where
  W : S.Ok mg mb
  B : Bn mg
  Q : Quo S mg
  Fl : Flg S mg flagTab
  lim : ∃ t, mg "_DIV_LIMIT" = some (.int 4000 t)
  a : Nat → Addr
  fd : Nat → FuncData
  T : ∀ k ∈ [3, 5, 6, 7, 8, 11, 16, 18, 19, 20, 21, 22], TopFn S mg k (a k) (fd k)
  m3 : mg "_div2n1n" = some (.ref (a 3))
  m5 : mg "_int2digits" = some (.ref (a 5))
  m6 : mg "_digits2int" = some (.ref (a 6))
  m7 : mg "_divmod_pos" = some (.ref (a 7))
  m8 : mg "int_divmod" = some (.ref (a 8))
  m11 : mg "pretty_flags" = some (.ref (a 11))
  m16 : mg "quotedata" = some (.ref (a 16))
  m18 : mg "_law_numbers" = some (.ref (a 18))
  m19 : mg "_law_kept" = some (.ref (a 19))
  m20 : mg "_law_earliest" = some (.ref (a 20))
  m21 : mg "_law_determinant" = some (.ref (a 21))
  m22 : mg "law" = some (.ref (a 22))
  c6 : Addr
  t6 : Tab
  hc6 : (fd 6).code = .ref c6
  K6 : Maker S mg c6 t6
  l6 : t6.line = (stPos d2iIn).line ∧ t6.col = (stPos d2iIn).col
  q6 : (fd 6).qualname ++ ".<locals>." ++ "inner" = t6.qual
  c5 : Addr
  t5 : Tab
  hc5 : (fd 5).code = .ref c5
  K5 : Maker S mg c5 t5
  l5 : t5.line = (stPos i2dIn).line ∧ t5.col = (stPos i2dIn).col
  q5 : (fd 5).qualname ++ ".<locals>." ++ "inner" = t5.qual

section
variable {S : Sys} {mg mb : Str → Option Value}

theorem Tops2.d2i (X : Tops2 S mg mb) {l : List Nat} {n : Nat} (h : ∀ z ∈ l, z < 2 ^ n) (hl : l.length ≤ 10) (hn : n < 2 ^ 13) : CallOk S false 11 (.ref (X.a 6)) [.ints (l.map Int.ofNat), .int n] (.int (dsum n (l.map Int.ofNat))) :=
  d2i_ok (d := 10) X.W (X.T 6 (by decide)) X.hc6 X.K6 X.l6 X.q6 (fit_nat h (by (first | lia | omega)) hn) (by rw [List.length_map]; exact hl) (.blt X.W rfl X.B.len rfl (by decide))
theorem Tops2.i2d (X : Tops2 S mg mb) {w : Nat} (hw : 0 < w) (hw2 : w ≤ 17) (ds : List Nat) (h0 : ds ≠ []) (h7 : ds.length ≤ 7) (h : ∀ z ∈ ds, 1 ≤ z ∧ z < 2 ^ w) : CallOk S false 11 (.ref (X.a 5)) [.int (nsum w ds : Int), .int (w : Int)] (.ints (ds.map Int.ofNat)) := by
  obtain ⟨e1, e2⟩ := i2d_nsum hw h0 h
  have hx : nsum w ds < 2 ^ 119 := Nat.lt_of_lt_of_le (nsum_lt w ds fun z hz => (h z hz).2) (Nat.pow_le_pow_right (by decide) (Nat.le_trans (Nat.mul_le_mul hw2 h7) (by decide)))
  have := i2d_ok (d := 10) X.W (X.T 5 (by decide)) X.hc5 X.K5 X.l5 X.q5 hw (by (first | lia | omega)) (B := 119) (by decide) hx (by (first | lia | omega)) (.blt X.W rfl X.B.len rfl (by decide))
  rw [e2] at this; exact this
theorem Tops2.flags (X : Tops2 S mg mb) {b : Bool} {x d : Nat} (hx : x < 32) : CallOk S b (d + 1) (.ref (X.a 11)) [.int x] (.str (pf x)) := flags_ok X.W X.B X.Fl (X.T 11 (by decide)) hx
theorem Tops2.quote (X : Tops2 S mg mb) {d : Nat} {en : List Nat} (he : isEnd en) (ls : List (List Nat)) (h0 : ls ≠ []) (hok : ∀ l ∈ ls, okLine l) (h7 : ls.length ≤ 7) (h5 : ∀ l ∈ ls, l.length ≤ 5) :
    CallOk S false (d + 1) (.ref (X.a 16)) [.str (Mine.S (glue en ls))] (.str (Mine.S (glue [13, 10] (ls.map dotted)))) := by
  have hen : en.length ≤ 2 := by rcases he with h | h | h <;> subst h <;> decide
  have hd6 : ∀ l ∈ ls.map dotted, l.length ≤ 6 := fun l hl => by
    obtain ⟨l', hl', rfl⟩ := List.mem_map.mp hl
    have := h5 l' hl'
    unfold dotted; split <;> simp <;> (first | lia | omega)
  have g1 : (glue en ls).length ≤ 7 * (5 + 2) := Nat.le_trans (glue_short h5 h7) (by (first | lia | omega))
  have g2 : (glue [13, 10] ls).length ≤ 7 * (5 + 2) := Nat.le_trans (glue_short h5 h7) (by simp)
  have g3 : (glue [13, 10] (ls.map dotted)).length ≤ 7 * (6 + 2) := Nat.le_trans (glue_short hd6 (by rw [List.length_map]; exact h7)) (by simp)
  exact quote_ok X.W X.Q (X.T 16 (by decide)) he h0 hok (by (first | lia | omega)) (by (first | lia | omega)) (by (first | lia | omega)) (by (first | lia | omega))

theorem Tops2.divmod (X : Tops2 S mg mb) (P β : Int) (hβ : Unit1 β) (hP : P.natAbs < 2 ^ 128) : CallOk S false 15 (.ref (X.a 8)) [.int (P * ((2 ^ 120 : Nat) : Int)), .int (β * ((2 ^ 120 : Nat) : Int))] (.tup [.int (β * P), .int 0]) := by
  obtain ⟨t, hlim⟩ := X.lim
  obtain ⟨y, hy⟩ : ∃ y : Nat, y = 2 ^ 120 := ⟨_, rfl⟩
  have hy0 : 0 < y := by rw [hy]; decide
  have hny : nbits y ≤ 121 := bits_lt (B := 121) (by rw [hy]; decide)
  have hny1 : 121 ≤ nbits y := bits_ge (B := 120) (by rw [hy]; decide)
  have hy4 : y < 2 ^ 4000 := by rw [hy]; exact Nat.pow_lt_pow_right (by decide) (by decide)
  rw [← hy]
  refine idivU_ok (d := 12) X.W (X.T 8 (by decide)) X.m8 (X.T 7 (by decide)) X.m7 hy0 hβ fun x hx => ?_
  have hx2 : x < 2 ^ 248 := by
    have h1 : (P * (y : Int)).natAbs < 2 ^ 248 := by
      rw [Int.natAbs_mul, Int.natAbs_natCast, hy, show (2 : Nat) ^ 248 = 2 ^ 128 * 2 ^ 120 by decide]
      exact Nat.mul_lt_mul_of_pos_right hP (by decide)
    (first | lia | omega)
  have hnx : nbits x ≤ 248 := bits_lt (B := 248) hx2
  have hil : i2dLen (nbits y) x ≤ 3 := by
    unfold i2dLen
    have : nbits y = 121 := by (first | lia | omega)
    rw [this]; (first | lia | omega)
  exact dpos_ok (d := 11) X.W X.B (X.T 7 (by decide)) (X.T 5 (by decide)) (X.T 6 (by decide)) (X.T 3 (by decide)) X.m5 X.m6 X.m3 hy0 (by (first | lia | omega)) (by (first | lia | omega))
    (i2d_ok (d := 10) X.W (X.T 5 (by decide)) X.hc5 X.K5 X.l5 X.q5 (by (first | lia | omega)) (by (first | lia | omega)) (B := 248) (by decide) hx2 (by (first | lia | omega)) (.blt X.W rfl X.B.len rfl (by decide)))
    (fun l h1 h2 => X.d2i h1 (by (first | lia | omega)) (by (first | lia | omega))) (fun c hc => div2_ok X.W X.B (X.T 3 (by decide)) hlim hy0 hy4 hc)

theorem Tops2.law (X : Tops2 S mg mb) {vs : List Int} (hv : vs.length < 2 ^ 20) : CallOk S false 17 (.ref (X.a 22)) [.ints vs] (.bool true) := by
  obtain ⟨nums, hnums⟩ : ∃ nums, nums = numAfter vs [3, 7, 16, 17, 21, 10, 12, 0] vs.length := ⟨_, rfl⟩
  have hnl : nums.length = 8 := by rw [hnums, numAfter_len]; rfl
  obtain ⟨sz, hsz⟩ : ∃ n, n = if vs.length < 4 then 5 else 7 := ⟨_, rfl⟩
  have hsz7 : sz ≤ 7 ∧ 0 < sz := by rw [hsz]; split <;> (first | lia | omega)
  obtain ⟨N, hN⟩ : ∃ N, N = nums.getD 7 0 := ⟨_, rfl⟩
  obtain ⟨raw, hraw⟩ : ∃ raw : Nat → Nat, ∀ i, (nums.getD i 0).fmod 32 = (raw i : Int) ∧ raw i < 32 := by
    refine ⟨fun i => ((nums.getD i 0).fmod 32).toNat, fun i => ?_⟩
    have h1 : (0 : Int) ≤ (nums.getD i 0).fmod 32 := Int.fmod_nonneg_of_pos _ (by decide)
    have h2 : (nums.getD i 0).fmod 32 < 32 := Int.fmod_lt_of_pos _ (by decide)
    show _ = ((((nums.getD i 0).fmod 32).toNat : Nat) : Int) ∧ ((nums.getD i 0).fmod 32).toNat < 32
    (first | lia | omega)
  obtain ⟨sn, hsn, hord⟩ : ∃ sn, sn < 5 ∧ ∀ k : Nat, (N + k).fmod 5 = (((sn + k) % 5 : Nat) : Int) := by
    refine ⟨(N % 5).toNat, by (first | lia | omega), fun k => ?_⟩
    rw [Int.fmod_eq_emod_of_nonneg _ (by decide)]; (first | lia | omega)
  obtain ⟨ek, hek⟩ : ∃ ek : Nat, (N.fdiv 5).fmod 3 = (ek : Int) ∧ ek < 3 := by
    have h1 : (0 : Int) ≤ (N.fdiv 5).fmod 3 := Int.fmod_nonneg_of_pos _ (by decide)
    have h2 : (N.fdiv 5).fmod 3 < 3 := Int.fmod_lt_of_pos _ (by decide)
    exact ⟨((N.fdiv 5).fmod 3).toNat, by (first | lia | omega), by (first | lia | omega)⟩
  obtain ⟨w, hw, hw1, hw2⟩ : ∃ w : Nat, (N.fdiv 15).fmod 8 = ((w - 10 : Nat) : Int) ∧ 10 ≤ w ∧ w ≤ 17 := by
    have h1 : (0 : Int) ≤ (N.fdiv 15).fmod 8 := Int.fmod_nonneg_of_pos _ (by decide)
    have h2 : (N.fdiv 15).fmod 8 < 8 := Int.fmod_lt_of_pos _ (by decide)
    exact ⟨10 + ((N.fdiv 15).fmod 8).toNat, by (first | lia | omega), by (first | lia | omega), by (first | lia | omega)⟩
  rw [hN] at hord hek hw
  obtain ⟨ms, hms⟩ : ∃ ms, ms = msOf raw sz := ⟨_, rfl⟩
  obtain ⟨F, hF⟩ : ∃ F, F = ms.map (sgns (rot sn)) := ⟨_, rfl⟩
  have mlt : ∀ x ∈ ms, x < 32 := hms ▸ ms_lt
  have mnd : ms.Nodup := hms ▸ ms_nd
  have mlen : ms.length ≤ 7 := by have := ms_len (raw := raw) (n := sz); rw [← hms] at this; (first | lia | omega)
  have mpos : 0 < ms.length := hms ▸ ms_pos hsz7.2 (hraw 0).2
  have hFl : F.length = ms.length := by rw [hF, List.length_map]
  have hfam : Fam 5 F := by rw [hF]; exact fam_ms hsn mnd mlt
  obtain ⟨ond, o5, _⟩ := rot_nd sn hsn
  have hol := rot_len sn
  refine top_ok (params := ["script"]) (rest := ["numbers", "size", "members", "order", "end", "width", "places", "rows", "member", "words", "kept", "chosen", "terms"]) X.W (X.T 22 (by decide))
    (law_head (d := 16) X.W X.B (X.T 18 (by decide)) (X.T 11 (by decide)) X.m18 X.m11 hv hnl hsz hraw hms hsn hord hF hek hw hw1 hw2 ?_ (fun h => X.flags h)
      (law_tail (d := 16) (δ := bef (clears 5 F F.length) F.length) X.W X.B (X.T 19 (by decide)) (X.T 20 (by decide)) (X.T 21 (by decide)) X.m19 X.m20 X.m21 hol ond o5 mlt mlen hfam hF hek.2 hw1 hw2 (det_unit hfam (by (first | lia | omega))) (fun en he => ?_) ?_ ?_)) rfl (by decide) (by decide) (vec1 fun _ fd => rfl) rfl rfl rfl
  · rw [hnums]; exact numbers_ok X.W X.B (X.T 18 (by decide)) hv (by decide) (by decide)
  · exact (kept_ok (d := 1) X.W X.B (X.T 16 (by decide)) (X.T 19 (by decide)) X.m16 X.m19 he (fun ls h0 hok h7 h5 => X.quote (d := 0) he ls h0 hok h7 h5) (rot sn) (by (first | lia | omega)) o5 F (by rw [hol]; exact hfam) (by (first | lia | omega))).mono (by rw [hol]; decide)
  · rw [hF]
    exact earlyN_ok (d := 15) X.W X.B (X.T 20 (by decide)) hol ond o5 mlen (hF ▸ hfam)
  · exact top_ok (d := 15) (params := ["terms", "width"]) (rest := ["half", "lift", "cleared", "term", "left", "before", "column", "pivot", "row", "entry", "rest", "entries", "free"]) X.W (X.T 21 (by decide))
      (det_body (m := 5) X.W X.B (X.T 8 (by decide)) X.m8 (X.T 5 (by decide)) X.m5 (X.T 6 (by decide)) X.m6 hw1 hw2 hfam (by (first | lia | omega)) (by (first | lia | omega)) (fun P β hβ hP => X.divmod P β hβ hP) (fun ds h0 h7 h => (X.i2d (by (first | lia | omega)) hw2 ds h0 h7 h).mono (by decide)) (fun l h7 h => (X.d2i h (by (first | lia | omega)) (by (first | lia | omega))).mono (by decide))) rfl (by decide) (by decide) (vec2 fun _ _ fd => rfl) rfl rfl rfl
end
end Mine
open PySem PySem.Calls PyProof.Rows PySem.W
set_option Elab.async false
namespace Mine
set_option maxRecDepth 100000 in
set_option maxHeartbeats 8000000 in
open_top hd2 for PySem.Challenge.rw_re0073_02
end Mine
open PySem PySem.Calls PyProof.Rows PySem.W
set_option Elab.async false
set_option autoImplicit false
set_option linter.unusedVariables false
set_option maxRecDepth 100000
namespace Mine

theorem topFn_of {K : Frag} {S : Sys} {mg : Str → Option Value} {k : Nat} {a : Addr} {o : Obj} {fd : FuncData} (X : K.In S.hT) (h1 : K.lookup a = some o) (h2 : o.data = .func fd) (h3 : codeIn K fd.code fd.qualname = true)
    (h4 : fd.body = .stmts (stBody (topAt k))) (h5 : fd.scope = stScope (topAt k)) (h6 : fd.params = stParams (topAt k)) (h7 : fd.closure = []) (h8 : fd.globals = mainGlobals) (h9 : fd.builtins = builtinsNs) (h10 : fd.defaults = .none ∧ fd.kwdefaults = .none) : TopFn S mg k a fd :=
  ⟨⟨o, X _ _ h1, h2⟩, codeRec_of X h3, h4, h5, h6, h7, h8, h9, h10⟩

noncomputable def fnIn (K : Frag) (a : Addr) (dflt : FuncData) : FuncData := match K.lookup a with
  | some o => (match o.data with | .func fd => fd | _ => dflt)
  | none => dflt

theorem maker_of {K : Frag} {S : Sys} {mg : Str → Option Value} {c : Addr} {t : Tab} (X : K.In S.hT) (hm : t ∈ S.tabs) (hi : ∀ t' ∈ S.tabs, t'.P = t.P → t' = t) (h1 : codeHdIn K c t.P = true) (hc : c ∉ S.TB) (hP : t.P ≠ mainGlobals)
    (bm : ∃ bm ob, mg "__builtins__" = some (.ref bm) ∧ bm ≠ builtinsNs ∧ S.hT.get? bm = some ob ∧ ob.cls = .type "module" ∧ ob.dict = some builtinsNs ∧ ob.data = .plain) (g : nsIn K mainGlobals "__builtins__" = some (some (.ref 4))) (G : S.hT.Ns mainGlobals mg) (h4 : 4 ∉ S.TB) (h5 : 4 ≠ t.P) : Maker S mg c t where
  mem := hm
  inj := hi
  hdr := fun h Gh => by
    obtain ⟨o, vs, file, tf, flags, tg, inF, text, tt, e, r⟩ := codeHd_of_K X h1
    exact ⟨o, vs, file, tf, flags, tg, inF, text, tt, Gh.top _ _ hc e, r⟩
  bm := fun h Gh => by
    obtain ⟨bm, ob, e1, e2, e3, e4, e5, e6⟩ := bm
    have := mg_of X G g
    rw [e1] at this
    cases this
    exact ⟨4, ob, e1, e2, by decide, h5, Gh.top _ _ h4 e3, e4, e5, e6⟩
  gP := fun e => hP e.symm

theorem flg_of {K : Frag} {S : Sys} {mg : Str → Option Value} {a : Addr} {es : Array DictEntry} {n : Nat} (X : K.In S.hT) (G : S.hT.Ns mainGlobals mg) (g : nsIn K mainGlobals "COMPILER_FLAG_NAMES" = some (some (.ref a))) (ha : a ∉ S.TB) (hs : (a == sysModules) = false)
    (h1 : K.lookup a = some { cls := .type "dict", data := .dict es n }) (kvs : List (Int × Value)) (h2 : KeysOf (intKind S.prog S.w) es) (h3 : Pairs (intKind S.prog S.w) es.toList kvs) (h4 : (kvs.map (·.1)).Nodup) (h5 : ∀ k x, (k, x) ∈ flagTab → ∃ t, valueAt kvs k = some (.str x t)) : Flg S mg flagTab :=
  ⟨a, kvs, mg_of X G g, ha, hs, ⟨_, es, n, X _ _ h1, ⟨rfl, rfl, rfl⟩, rfl, h2, h3, h4⟩, h5⟩

section
variable {w : World} {h : Heap} {mg mb : Str → Option Value}
noncomputable abbrev K1 (w : World) : Frag := hd2.heap_39 w.params
noncomputable def t6 : Tab := ⟨54, (stPos d2iIn).line, (stPos d2iIn).col, "_digits2int.<locals>.inner"⟩
noncomputable def t5 : Tab := ⟨47, (stPos i2dIn).line, (stPos i2dIn).col, "_int2digits.<locals>.inner"⟩
noncomputable def S1' (w : World) (h : Heap) : Sys := ⟨PW, w, h, [t6, t5]⟩

theorem flg1 (X : (K1 w).In h) (G : h.Ns mainGlobals mg) : Flg (S1' w h) mg flagTab := by
  refine flg_of (K := K1 w) (S := S1' w h) (a := 74) X G rfl (by show 74 ∉ [54, 47]; decide) (by decide) rfl
    [(1, .str "OPTIMIZED" 367), (2, .str "NEWLOCALS" 369), (4, .str "VARARGS" 371), (8, .str "VARKEYWORDS" 373), (16, .str "NESTED" 375), (32, .str "GENERATOR" 377), (64, .str "NOFREE" 379), (128, .str "COROUTINE" 381), (256, .str "ITERABLE_COROUTINE" 383), (512, .str "ASYNC_GENERATOR" 385)] ?_ ?_ (by decide) ?_
  · intro e he
    have he' := Array.mem_toList_iff.mpr he
    simp only [List.mem_cons, List.not_mem_nil, or_false] at he'
    rcases he' with rfl | rfl | rfl | rfl | rfl | rfl | rfl | rfl | rfl | rfl
    · exact ⟨1, rfl, rfl⟩
    · exact ⟨2, rfl, rfl⟩
    · exact ⟨4, rfl, rfl⟩
    · exact ⟨8, rfl, rfl⟩
    · exact ⟨16, rfl, rfl⟩
    · exact ⟨32, rfl, rfl⟩
    · exact ⟨64, rfl, rfl⟩
    · exact ⟨128, rfl, rfl⟩
    · exact ⟨256, rfl, rfl⟩
    · exact ⟨512, rfl, rfl⟩
  · repeat' (first | exact .nil | refine .cons rfl rfl ?_)
  · intro k x hm
    simp only [flagTab, List.mem_cons, Prod.mk.injEq, List.not_mem_nil, or_false] at hm
    rcases hm with ⟨rfl, rfl⟩ | ⟨rfl, rfl⟩ | ⟨rfl, rfl⟩ | ⟨rfl, rfl⟩ | ⟨rfl, rfl⟩ <;> exact ⟨_, rfl⟩

theorem quo1 (X : (K1 w).In h) (G : h.Ns mainGlobals mg) : Quo (S1' w h) mg where
  re1 := ⟨86, mg_of X G rfl, ⟨_, _, 85, _, _, _, X 86 _ rfl, rfl, rfl, rfl, rfl, rfl, rfl, X 85 _ rfl, rfl, rfl, by decide +kernel⟩⟩
  re2 := ⟨91, mg_of X G rfl, ⟨_, _, 90, _, _, _, X 91 _ rfl, rfl, rfl, rfl, rfl, rfl, rfl, X 90 _ rfl, rfl, rfl, by decide +kernel⟩⟩
  crlf := ⟨_, mg_of X G rfl⟩
theorem bn1 (X : (K1 w).In h) (G : h.Ns mainGlobals mg) : Bn mg := by
  constructor <;> exact mg_none_of X G rfl

noncomputable def a1 : Nat → Addr
  | 3 => 38
  | 5 => 52
  | 6 => 59
  | 7 => 66
  | 8 => 73
  | 11 => 81
  | 16 => 98
  | 18 => 105
  | 19 => 110
  | 20 => 115
  | 21 => 120
  | _ => 125
noncomputable def f1 (w : World) (k : Nat) : FuncData := fnIn (K1 w) (a1 k) (fnX "" "" (stParams d2iIn) [] (stScope d2iIn) [] .none .none .none .none none .none .none)

theorem fns1 (X : (K1 w).In h) : ∀ k ∈ [3, 5, 6, 7, 8, 11, 16, 18, 19, 20, 21, 22], TopFn (S1' w h) mg k (a1 k) (f1 w k) := by
  intro k hk
  simp only [List.mem_cons, List.not_mem_nil, or_false] at hk
  rcases hk with rfl | rfl | rfl | rfl | rfl | rfl | rfl | rfl | rfl | rfl | rfl | rfl <;>
    exact topFn_of (K := K1 w) X rfl rfl (by kernel_rfl) rfl rfl rfl rfl rfl rfl ⟨rfl, rfl⟩

noncomputable def tops1 (X : (K1 w).In h) (hT8 : ∀ P : Addr, P ∈ [54, 47] → h.get? P = some (tabObj #[])) (G : h.Ns mainGlobals mg) (hb : h.Ns builtinsNs mb) (nl : h.NoLimit) (hbb : ∀ x : Str, x ≠ "__name__" → mb x = bootBuiltins x)
    (bm : ∃ bm ob, mg "__builtins__" = some (.ref bm) ∧ bm ≠ builtinsNs ∧ h.get? bm = some ob ∧ ob.cls = .type "module" ∧ ob.dict = some builtinsNs ∧ ob.data = .plain) : Tops2 (S1' w h) mg mb where
  W := { gdT := ⟨fun _ _ _ e => e, fun t ht => ⟨#[], hT8 t.P (by
      have ht' : t ∈ [t6, t5] := ht
      simp only [List.mem_cons, List.not_mem_nil, or_false] at ht'
      rcases ht' with rfl | rfl
      · exact .head _
      · exact .tail _ (.head _)), .inl rfl⟩⟩, nolimit := nl, g := G, b := hb, blt := hbb }
  B := bn1 X G
  Q := quo1 X G
  Fl := flg1 X G
  lim := ⟨_, mg_of X G rfl⟩
  a := a1
  fd := f1 w
  T := fns1 X
  m3 := mg_of X G rfl
  m5 := mg_of X G rfl
  m6 := mg_of X G rfl
  m7 := mg_of X G rfl
  m8 := mg_of X G rfl
  m11 := mg_of X G rfl
  m16 := mg_of X G rfl
  m18 := mg_of X G rfl
  m19 := mg_of X G rfl
  m20 := mg_of X G rfl
  m21 := mg_of X G rfl
  m22 := mg_of X G rfl
  c6 := 58
  t6 := t6
  hc6 := by kernel_rfl
  K6 := maker_of (K := K1 w) X (.head _) (fun t' h' e => by
      have h2 : t' ∈ [t6, t5] := h'
      simp only [List.mem_cons, List.not_mem_nil, or_false] at h2
      rcases h2 with rfl | rfl
      · rfl
      · exact absurd e (by decide)) (by kernel_rfl) (by show 58 ∉ [54, 47]; decide) (by decide) bm rfl G (by show 4 ∉ [54, 47]; decide) (by decide)
  l6 := ⟨by kernel_rfl, by kernel_rfl⟩
  q6 := by kernel_rfl
  c5 := 51
  t5 := t5
  hc5 := by kernel_rfl
  K5 := maker_of (K := K1 w) X (.tail _ (.head _)) (fun t' h' e => by
      have h2 : t' ∈ [t6, t5] := h'
      simp only [List.mem_cons, List.not_mem_nil, or_false] at h2
      rcases h2 with rfl | rfl
      · exact absurd e (by decide)
      · rfl) (by kernel_rfl) (by show 51 ∉ [54, 47]; decide) (by decide) bm rfl G (by show 4 ∉ [54, 47]; decide) (by decide)
  l5 := ⟨by kernel_rfl, by kernel_rfl⟩
  q5 := by kernel_rfl
end
end Mine
open PySem PySem.Calls PyProof.Rows PySem.W
set_option Elab.async false
set_option autoImplicit false
set_option linter.unusedVariables false
set_option maxRecDepth 100000
namespace Mine

theorem room1 : Room 17 callerA := ⟨rfl, by decide, by decide⟩

theorem oldK_of {S : Sys} {s₁ s' : Shared} (k : Kp S false s₁ s') (ht : ∀ t ∈ S.tabs, isCodeTable s₁.heap t.P ∧ s₁.heap.get? t.P = some (tabObj #[])) : OldK s₁.heap s'.heap := by
  have ha := TabOk.alive k.gd k.keep
  refine ⟨fun b o e => ?_, ha⟩
  by_cases hb : b ∈ S.TB
  · obtain ⟨t, hm, rfl⟩ := List.mem_map.mp hb
    obtain ⟨h1, h2⟩ := ht t hm
    rw [h2] at e; cases e
    obtain ⟨ps, e2, _⟩ := k.gd.tab t hm
    exact .inr (.inl ⟨h1, rfl, #[], ps, rfl, by rw [e2]; simp⟩)
  · exact .inl (k.keep b o hb e)

theorem good1 {S : Sys} {s₁ s' : Shared} {cl : Str → Option Addr} {mean : ExcName → Option Value} {l : OpenLaw} {args : List WData} {fp : List Addr} {v : Value} (k : Kp S false s₁ s') (ht : ∀ t ∈ S.tabs, isCodeTable s₁.heap t.P ∧ s₁.heap.get? t.P = some (tabObj #[])) (hg : s₁.gens = #[]) (r : Rp S s'.heap v (.bool true) fp)
    (hpost : l.row.toRowW.claim.post args (.bool true) args = true) (hr : ∀ cls, l.row.toRowW.claim.raises args cls = false) : GoodWG l.row.toRowW.claim cl mean args s₁ (.ok (.ret v)) s' := by
  (first | obtain ⟨_, rfl, rfl⟩ := r.inv | cases r)
  obtain ⟨h', tk, rfl, _⟩ := id k
  exact ⟨.inl ⟨_, .bool true, [], rfl, hr, .bool true, hpost, fun _ => ⟨.nil, fun a h => by cases h⟩⟩, oldK_of k ht, rfl, .of_eq hg⟩

theorem well_plain {P : Params} {h : Heap} {a : Addr} {xs : List WData} {vs : List Value} (x : Well P h (.ref a) (.list xs)) (hl : h.IsList a vs.toArray) : h.PlainList a vs.toArray := by
  cases x with
  | list e _ =>
    obtain ⟨o, e2, _, n, e4⟩ := hl
    rw [e] at e2
    cases e2
    simp only [Data.seq.injEq] at e4
    exact ⟨0, by rw [e, e4.1]⟩

theorem post1 (args : List WData) : PySem.Challenge.rw_re0073_02.row.toRowW.claim.post args (.bool true) args = true :=
  postW_of (by wrow_shape) (by wtm_val) (by str_meet; first | done | w_fin)

theorem go1 {w : World} {s₁ : Shared} {mg mb : Str → Option Value} {fa la : Addr} {vs : List Value} {ns : List Int} {cl : Str → Option Addr} {mean : ExcName → Option Value} {view : Program} {loose : List Str} {mean' : ExcName → Option Value}
    (X : (hd2.heap_39 w.params).In s₁.heap) (hT8 : ∀ P : Addr, P ∈ [54, 47] → s₁.heap.get? P = some (tabObj #[])) (T : Top view loose mean' mg mb s₁.heap) (hm : mg "law" = some (.ref fa)) (hg : s₁.gens = #[])
    (hL : s₁.heap.IsList la vs.toArray) (hW : Well w.params s₁.heap (.ref la) (ofPy (.list (ns.map .int)))) (hI : IntsAre vs ns) (hn : ¬ ((63 : Nat) : Int) < ((ns.length : Nat) : Int)) :
    wpAny (model PySem.Challenge.rw_re0073_02.row.toRowW.prog w) callerA (call (.ref fa) [.ref la])
      (fun v s' => GoodWG PySem.Challenge.rw_re0073_02.row.toRowW.claim cl mean [ofPy (.list (ns.map .int))] s₁ (.ok (.ret v)) s')
      (fun e s' => GoodWG PySem.Challenge.rw_re0073_02.row.toRowW.claim cl mean [ofPy (.list (ns.map .int))] s₁ (.error e) s') s₁ := by
  have tp := tops1 X hT8 T.g T.b T.nolimit T.builtins T.bmain
  have e1 : fa = tp.a 22 := by have := tp.m22; rw [hm] at this; cases this; rfl
  have hlen : ns.length < 2 ^ 20 := by have : ns.length ≤ 63 := by (first | lia | omega)
                                       (first | lia | omega)
  have ok := tp.law hlen
  rw [← e1] at ok
  have hpl : s₁.heap.PlainList la vs.toArray := by
    have : ofPy (.list (ns.map .int)) = .list (ofPys (ns.map .int)) := rfl
    rw [this] at hW
    exact well_plain hW hL
  have hTB : la ∉ (S1' w s₁.heap).TB := fun hm => by
    have hm' : la ∈ [54, 47] := hm
    obtain ⟨n, e⟩ := hpl
    rw [hT8 la hm'] at e
    cases e
  have r : Rp (S1' w s₁.heap) s₁.heap (.ref la) (.ints ns) (la :: []) := .list hTB hpl (.ofInts hI)
  have ht : ∀ t ∈ (S1' w s₁.heap).tabs, isCodeTable s₁.heap t.P ∧ s₁.heap.get? t.P = some (tabObj #[]) := by
    intro t ht
    have ht' : t ∈ [t6, t5] := ht
    simp only [List.mem_cons, List.not_mem_nil, or_false] at ht'
    rcases ht' with rfl | rfl
    · exact ⟨((codeHd_of_K (K := K1 w) (c := 58) (P := 54) X (by kernel_rfl)).tab (hT8 _ (.head _))).isCodeTable, hT8 _ (.head _)⟩
    · exact ⟨((codeHd_of_K (K := K1 w) (c := 51) (P := 47) X (by kernel_rfl)).tab (hT8 _ (.tail _ (.head _)))).isCodeTable, hT8 _ (.tail _ (.head _))⟩
  refine wpAny_mono (ok callerA s₁ [.ref la] _ (fun v s' => Kp (S1' w s₁.heap) false s₁ s' ∧ ∃ fp, Rp (S1' w s₁.heap) s'.heap v (.bool true) fp) room1 tp.W.gdT (.cons r .nil) fun v s' fp k r _ => ⟨k, fp, r⟩) (fun v s' h => ?_) (fun e s' h => h.elim)
  obtain ⟨k, fp, r'⟩ := h
  exact good1 k ht hg r' (post1 _) fun _ => rfl

set_option maxHeartbeats 8000000 in
theorem tst : PySem.Challenge.rw_re0073_02.Holds := hd2 (by
  w_strict (
    intro w s₀ s₁ mg mb G Y fa o pm cd doc dV kV ho hd hcd hD hmg hg args vals as hpre hlay hrd hwl hlo
    have KX := km_in_of Y
    km_tabs Y
    refine Ground.open G ?_
    intro T B D TE TW
    clear TE TW B D Y G
    wrow_args hpre hlay hrd hwl hlo
    all_goals exact go1 KX hT8 T hmg hg (by assumption) (by assumption) (by assumption) (by assumption)))
end Mine
open PySem PySem.Calls PyProof.Rows PySem.W
set_option Elab.async false
theorem PySem.Challenge.cw_re0073_02_holds : PySem.Challenge.rw_re0073_02.Holds :=
  Mine.tst

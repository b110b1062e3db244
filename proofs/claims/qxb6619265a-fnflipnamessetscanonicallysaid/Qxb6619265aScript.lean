/-
  THE PLAIN LAW of 'FnFlipNamesSetsCanonically': names along a script, told by the parities of what was flipped. No Go in sight.
-/
import Derived.Test.Qxb6619265aNames
namespace Go.Proofs.Qxb6619265a.Flip

/-- The members flipped by the rounds A .. b-1. -/
def seg (z : Nat → Nat) (A b : Nat) : List Nat := (List.range' A (b - A)).map z
def sc (z : Nat → Nat) (k : Nat) : List Nat := (List.range k).map z
/-- The name behind m rounds. -/
def nm (L : Nat) (z : Nat → Nat) (m : Nat) : Nat := (run L (sc z m)).2

theorem seg_self (z : Nat → Nat) (A : Nat) : seg z A A = [] := by simp [seg]
theorem seg_succ (z : Nat → Nat) {A b : Nat} (h : A ≤ b) : seg z A (b + 1) = seg z A b ++ [z b] := by
  unfold seg
  rw [show b + 1 - A = (b - A) + 1 from by omega, List.range'_concat, List.map_append]
  simp
  congr 1; omega
theorem sc_split (z : Nat → Nat) {A b : Nat} (h : A ≤ b) : sc z b = sc z A ++ seg z A b := by
  unfold sc seg
  rw [← List.map_append]
  congr 1
  rw [List.range_eq_range', List.range_eq_range']
  have := List.range'_append (s := 0) (m := A) (n := b - A) (step := 1)
  simp at this
  rw [this]
  congr 1; omega

/-- The first round that flips the member which round b flips. -/
def fst (z : Nat → Nat) (b : Nat) : Nat := ((List.range b).find? fun a => z a == z b).getD b

theorem fst_spec (z : Nat → Nat) (b : Nat) : fst z b ≤ b ∧ z (fst z b) = z b ∧ ∀ a, a < fst z b → z a ≠ z b := by
  unfold fst
  cases h : (List.range b).find? fun a => z a == z b with
  | none =>
    refine ⟨Nat.le_refl _, rfl, fun a ha => ?_⟩
    rw [List.find?_eq_none] at h
    have := h a (by simpa using ha)
    simpa using this
  | some c =>
    simp only [Option.getD_some]
    rw [List.find?_range_eq_some] at h
    obtain ⟨h1, h2, h3⟩ := h
    simp at h1 h2
    exact ⟨by omega, h1, fun a ha => by have := h3 a ha; simpa using this⟩

theorem fst_of {z : Nat → Nat} {a b : Nat} (h : z a = z b) (hm : ∀ c, c < a → z c ≠ z b) : fst z b = a := by
  obtain ⟨h1, h2, h3⟩ := fst_spec z b
  rcases Nat.lt_trichotomy (fst z b) a with hl | hl | hl
  · exact absurd h2 (hm _ hl)
  · exact hl
  · exact absurd h (h3 _ hl)
theorem fst_eq {z : Nat → Nat} {b c : Nat} : fst z b = fst z c ↔ z b = z c := by
  obtain ⟨h1, h2, h3⟩ := fst_spec z b
  obtain ⟨g1, g2, g3⟩ := fst_spec z c
  constructor
  · intro e; rw [← h2, ← g2, e]
  · intro e
    rcases Nat.lt_trichotomy (fst z b) (fst z c) with hl | hl | hl
    · exact absurd (h2.trans e) (g3 _ hl)
    · exact hl
    · exact absurd (g2.trans e.symm) (h3 _ hl)
theorem fst_fst (z : Nat → Nat) (b : Nat) : fst z (fst z b) = fst z b := fst_eq.2 (fst_spec z b).2.1

theorem par_nil (m : Nat) : par [] m = false := rfl

theorem par_fst (z : Nat → Nat) (A f : Nat) : ∀ b, A ≤ b → par (seg (fst z) A b) f = (decide (fst z f = f) && par (seg z A b) (z f)) := by
  intro b hb
  induction b with
  | zero =>
    have hA : A = 0 := by omega
    subst hA
    rw [seg_self, seg_self, par_nil, par_nil]; simp
  | succ b ih =>
    rcases Nat.lt_or_ge b A with h | h
    · obtain rfl : A = b + 1 := by omega
      simp [seg_self, par_nil]
    · rw [seg_succ _ h, seg_succ _ h, par_snoc, par_snoc, ih h]
      by_cases hf : fst z f = f
      · have : (fst z b == f) = (z b == z f) := by
          rw [Bool.eq_iff_iff, beq_iff_eq, beq_iff_eq]
          constructor
          · intro e; rw [← hf] at e; exact fst_eq.1 e
          · intro e; rw [← hf]; exact fst_eq.2 e
        simp [hf, this]
      · have : (fst z b == f) = false := by
          rw [beq_eq_false_iff_ne]
          intro e
          exact hf (by rw [← e]; exact fst_fst z b)
        simp [hf, this]

theorem par_mem : ∀ (l : List Nat) (m : Nat), par l m = true → m ∈ l := by
  intro l m
  induction l using snocInd with
  | h0 => intro h; simp [par_nil] at h
  | h1 l x ih =>
    intro h
    rw [par_snoc] at h
    cases hp : par l m
    · simp [hp] at h; simp [h]
    · exact List.mem_append_left _ (ih hp)

def cnt (o : Nat → Bool) : Nat → Nat
  | 0 => 0
  | k + 1 => cnt o k + if o k then 1 else 0

theorem cnt_congr {o o' : Nat → Bool} : ∀ {k : Nat}, (∀ f, f < k → o f = o' f) → cnt o k = cnt o' k
  | 0, _ => rfl
  | k + 1, h => by simp only [cnt]; rw [cnt_congr (fun f hf => h f (by omega)), h k (by omega)]
theorem cnt_le (o : Nat → Bool) : ∀ k, cnt o k ≤ k
  | 0 => Nat.le_refl _
  | k + 1 => by simp only [cnt]; have := cnt_le o k; split <;> omega
theorem cnt_zero {o : Nat → Bool} : ∀ {k : Nat}, cnt o k = 0 ↔ ∀ f, f < k → o f = false
  | 0 => by simp [cnt]
  | k + 1 => by
    simp only [cnt]
    constructor
    · intro h f hf
      have h1 : cnt o k = 0 := by omega
      rcases Nat.lt_or_ge f k with hlt | hge
      · exact cnt_zero.1 h1 f hlt
      · obtain rfl : f = k := by omega
        cases ho : o f
        · rfl
        · simp [ho] at h
    · intro h
      rw [cnt_zero.2 (fun f hf => h f (by omega)), h k (by omega)]; rfl
/-- One flag turned. -/
theorem cnt_turn {o o' : Nat → Bool} {g : Nat} (hs : o' g = !o g) (ho : ∀ f, f ≠ g → o' f = o f) : ∀ {k : Nat}, g < k → cnt o' k + (if o g then 1 else 0) = cnt o k + (if o g then 0 else 1)
  | 0, h => by omega
  | k + 1, h => by
    simp only [cnt]
    by_cases hg : g = k
    · subst hg
      rw [cnt_congr (fun f hf => ho f (by omega)), hs]
      cases o g <;> simp
    · have ih := cnt_turn hs ho (k := k) (by omega)
      rw [ho k (fun e => hg e.symm)]
      omega

/-- What the flags hold when the rounds A .. b-1 have been counted. -/
def odd (z : Nat → Nat) (A b f : Nat) : Bool := par (seg (fst z) A b) f

theorem odd_self (z : Nat → Nat) (A f : Nat) : odd z A A f = false := by simp [odd, seg_self, par_nil]
theorem odd_succ (z : Nat → Nat) {A b : Nat} (h : A ≤ b) (f : Nat) : odd z A (b + 1) f = (odd z A b f ^^ (fst z b == f)) := by
  unfold odd; rw [seg_succ _ h, par_snoc]
theorem odd_mem {z : Nat → Nat} {A b f : Nat} (h : odd z A b f = true) : ∃ c, A ≤ c ∧ c < b ∧ fst z c = f := by
  have := par_mem _ _ h
  simp only [seg, List.mem_map, List.mem_range'] at this
  obtain ⟨c, ⟨i, hi, rfl⟩, hc⟩ := this
  exact ⟨A + 1 * i, by omega, by omega, hc⟩

theorem cnt_succ {z : Nat → Nat} {A b k : Nat} (h : A ≤ b) (hk : b < k) : cnt (odd z A (b + 1)) k + (if odd z A b (fst z b) then 1 else 0) = cnt (odd z A b) k + (if odd z A b (fst z b) then 0 else 1) := by
  have := (fst_spec z b).1
  refine cnt_turn ?_ ?_ (by omega)
  · rw [odd_succ z h]; simp
  · intro f hf
    rw [odd_succ z h]
    have : (fst z b == f) = false := beq_eq_false_iff_ne.2 (Ne.symm hf)
    rw [this, Bool.xor_false]

/-- THE LAW: the two names are one just where no flag is up. -/
theorem names_law {L : Nat} {z : Nat → Nat} {A b k : Nat} (hA : A ≤ b) (hb : b ≤ k) (hz : ∀ c, c < k → z c < 64 * 2 ^ L) : nm L z b = nm L z A ↔ cnt (odd z A b) k = 0 := by
  unfold nm
  rw [sc_split z hA]
  rw [name_eq]
  · rw [cnt_zero]
    constructor
    · intro h f _
      unfold odd
      rw [par_fst z A f b hA, h]; simp
    · intro h m
      cases hp : par (seg z A b) m
      · rfl
      · have := par_mem _ _ hp
        simp only [seg, List.mem_map, List.mem_range'] at this
        obtain ⟨c, ⟨i, hi, rfl⟩, hc⟩ := this
        have hck : A + 1 * i < k := by omega
        generalize A + 1 * i = c at *
        have hlt : fst z c < k := Nat.lt_of_le_of_lt (fst_spec z c).1 hck
        have h2 := h (fst z c) hlt
        unfold odd at h2
        rw [par_fst z A _ b hA, fst_fst, (fst_spec z c).2.1, hc, hp] at h2
        simp at h2
  · intro x hx
    rw [← sc_split z hA] at hx
    simp only [sc, List.mem_map, List.mem_range] at hx
    obtain ⟨c, hc, rfl⟩ := hx
    exact hz c (by omega)

/-- What the flags hold while they are let down: the rounds A .. b-1 are done. -/
def clr (z : Nat → Nat) (A k b f : Nat) : Bool := odd z A k f && !((List.range' A (b - A)).any fun c => fst z c == f)
theorem clr_self (z : Nat → Nat) (A k f : Nat) : clr z A k A f = odd z A k f := by simp [clr]
theorem clr_succ (z : Nat → Nat) {A k b : Nat} (h : A ≤ b) (f : Nat) : clr z A k (b + 1) f = (clr z A k b f && !(fst z b == f)) := by
  unfold clr
  rw [show b + 1 - A = (b - A) + 1 from by omega, List.range'_concat, List.any_append]
  rw [show A + 1 * (b - A) = b from by omega]
  cases odd z A k f <;> simp
theorem clr_end (z : Nat → Nat) (A k f : Nat) : clr z A k k f = false := by
  unfold clr
  cases h : odd z A k f
  · rfl
  · obtain ⟨c, h1, h2, h3⟩ := odd_mem h
    have : ((List.range' A (k - A)).any fun c => fst z c == f) = true := by
      rw [List.any_eq_true]
      exact ⟨c, by rw [List.mem_range']; exact ⟨c - A, by omega, by omega⟩, by simpa using h3⟩
    simp [this]

/-! ### height 0: the name is the word of the bitset -/
theorem nm_zero_bit {z : Nat → Nat} {b : Nat} (hz : ∀ c, c < b → z c < 64) {j : Nat} (hj : j < 64) : (nm 0 z b).testBit j = par (sc z b) j := by
  have r := ran 0 (sc z b) (by
    intro x hx
    simp only [sc, List.mem_map, List.mem_range] at hx
    obtain ⟨c, hc, rfl⟩ := hx
    simpa using hz c hc)
  have := r.den j (by simpa using hj)
  unfold denN at this
  rw [if_pos rfl, Nat.mod_eq_of_lt hj] at this
  exact this
theorem nm_zero_lt {z : Nat → Nat} {b : Nat} (hz : ∀ c, c < b → z c < 64) : nm 0 z b < 2 ^ 64 := by
  have r := ran 0 (sc z b) (by
    intro x hx
    simp only [sc, List.mem_map, List.mem_range] at hx
    obtain ⟨c, hc, rfl⟩ := hx
    simpa using hz c hc)
  have := r.val
  unfold ValidN at this
  rwa [if_pos rfl] at this
theorem want_step (X j : Nat) : X / 2 ^ (j + 1) * 2 + (if X.testBit j then 1 else 0) = X / 2 ^ j := by
  have e : X / 2 ^ (j + 1) = X / 2 ^ j / 2 := by rw [Nat.pow_succ, Nat.div_div_eq_div_mul]
  rw [e, Nat.testBit_eq_decide_div_mod_eq]
  generalize X / 2 ^ j = y
  by_cases h : y % 2 = 1 <;> simp [h] <;> omega
theorem sc_succ (z : Nat → Nat) (b : Nat) : sc z (b + 1) = sc z b ++ [z b] := by simp [sc, List.range_succ]
end Go.Proofs.Qxb6619265a.Flip

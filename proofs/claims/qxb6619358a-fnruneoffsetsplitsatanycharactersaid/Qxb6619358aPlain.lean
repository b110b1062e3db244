/-
  THE PLAIN LAW of 'stringEnd': no Go in sight.
-/
namespace Go.Proofs.Qxb6619358a.Se

/-- How far on the closing quote lies. -/
def scan : List UInt8 → Option Nat
  | [] => none
  | [c] => if c = 34 then some 0 else none
  | c :: d :: r => if c = 92 then (scan r).map (· + 2) else if c = 34 then some 0 else (scan (d :: r)).map (· + 1)

def SE (l : List UInt8) (i : Nat) : Nat × Bool :=
  match scan (l.drop i) with
  | some k => (i + k + 1, true)
  | none => (l.length, false)

theorem SE_out {l : List UInt8} {i : Nat} (h : l.length ≤ i) : SE l i = (l.length, false) := by
  unfold SE; rw [List.drop_eq_nil_of_le h]; rfl

theorem scan_esc (r : List UInt8) : scan (92 :: r) = (scan (r.drop 1)).map (· + 2) := by
  cases r with
  | nil => rfl
  | cons d r => simp [scan]
theorem scan_quote (r : List UInt8) : scan (34 :: r) = some 0 := by
  cases r with
  | nil => rfl
  | cons d r => simp [scan]
theorem scan_other {c : UInt8} (h1 : c ≠ 92) (h2 : c ≠ 34) (r : List UInt8) : scan (c :: r) = (scan r).map (· + 1) := by
  cases r with
  | nil => simp [scan, h2]
  | cons d r => simp [scan, h1, h2]

theorem drop_at {l : List UInt8} {i : Nat} {c : UInt8} (h : l[i]? = some c) : l.drop i = c :: l.drop (i + 1) := by
  have hi := (List.getElem?_eq_some_iff.1 h).1
  rw [List.drop_eq_getElem_cons hi, (List.getElem?_eq_some_iff.1 h).2]

theorem SE_esc {l : List UInt8} {i : Nat} (h : l[i]? = some 92) : SE l i = SE l (i + 2) := by
  unfold SE
  rw [drop_at h, scan_esc, List.drop_drop]
  cases scan (List.drop (i + 1 + 1) l) with
  | none => rfl
  | some k => simp only [Option.map_some]; rw [show i + (k + 2) + 1 = i + 2 + k + 1 from by omega]
theorem SE_quote {l : List UInt8} {i : Nat} (h : l[i]? = some 34) : SE l i = (i + 1, true) := by
  unfold SE
  rw [drop_at h, scan_quote]
theorem SE_other {l : List UInt8} {i : Nat} {c : UInt8} (h : l[i]? = some c) (h1 : c ≠ 92) (h2 : c ≠ 34) : SE l i = SE l (i + 1) := by
  unfold SE
  rw [drop_at h, scan_other h1 h2]
  cases scan (List.drop (i + 1) l) with
  | none => rfl
  | some k => simp only [Option.map_some]; rw [show i + (k + 1) + 1 = i + 1 + k + 1 from by omega]

/-- Putting a text in front moves the answer. -/
theorem SE_shift (p l : List UInt8) (i : Nat) : SE (p ++ l) (i + p.length) = ((SE l i).1 + p.length, (SE l i).2) := by
  unfold SE
  rw [show i + p.length = p.length + i from by omega, List.drop_append, List.drop_eq_nil_of_le (by omega), List.nil_append]
  rw [show p.length + i - p.length = i from by omega]
  cases scan (List.drop i l) with
  | none => simp; omega
  | some k => simp; omega

/-- Every way of the scan: an induction on what is left. -/
theorem SE_ind {l : List UInt8} {P : Nat → Prop} (hout : ∀ i, l.length ≤ i → P i) (hesc : ∀ i, l[i]? = some 92 → P (i + 2) → P i) (hquote : ∀ i, l[i]? = some 34 → P i)
    (hother : ∀ i c, l[i]? = some c → c ≠ 92 → c ≠ 34 → P (i + 1) → P i) (i : Nat) : P i := by
  have key : ∀ n i, l.length - i ≤ n → P i := by
    intro n
    induction n with
    | zero => intro i h; exact hout i (by omega)
    | succ n ih =>
      intro i h
      rcases Nat.lt_or_ge i l.length with hi | hi
      · have hc : l[i]? = some l[i] := List.getElem?_eq_getElem hi
        generalize l[i] = c at hc
        by_cases h1 : c = 92
        · subst h1; exact hesc i hc (ih _ (by omega))
        · by_cases h2 : c = 34
          · subst h2; exact hquote i hc
          · exact hother i c hc h1 h2 (ih _ (by omega))
      · exact hout i hi
  exact key _ i (Nat.le_refl _)

theorem SE_true {l : List UInt8} (i : Nat) : (SE l i).2 = true → i < (SE l i).1 ∧ (SE l i).1 ≤ l.length ∧ l[(SE l i).1 - 1]? = some 34 := by
  refine SE_ind (l := l) (P := fun i => (SE l i).2 = true → i < (SE l i).1 ∧ (SE l i).1 ≤ l.length ∧ l[(SE l i).1 - 1]? = some 34) ?_ ?_ ?_ ?_ i
  · intro i h h2; rw [SE_out h] at h2; simp at h2
  · intro i h ih h2; rw [SE_esc h] at h2 ⊢; have := ih h2; exact ⟨by omega, this.2⟩
  · intro i h _; rw [SE_quote h]; have := (List.getElem?_eq_some_iff.1 h).1; exact ⟨Nat.lt_succ_self _, this, h⟩
  · intro i c h h1 h2 ih h3; rw [SE_other h h1 h2] at h3 ⊢; have := ih h3; exact ⟨by omega, this.2⟩

theorem SE_false {l : List UInt8} (i : Nat) : (SE l i).2 = false → (SE l i).1 = l.length := by
  unfold SE; cases scan (List.drop i l) <;> simp

theorem SE_le (l : List UInt8) (i : Nat) : (SE l i).1 ≤ l.length := by
  cases h : (SE l i).2
  · rw [SE_false i h]; exact Nat.le_refl _
  · exact (SE_true i h).2.1

theorem get_app {l m : List UInt8} {i : Nat} {c : UInt8} (h : l[i]? = some c) : (l ++ m)[i]? = some c := by
  rw [List.getElem?_append_left (List.getElem?_eq_some_iff.1 h).1]; exact h

theorem SE_app {l : List UInt8} (m : List UInt8) (i : Nat) : (SE l i).2 = true → SE (l ++ m) i = SE l i := by
  refine SE_ind (l := l) (P := fun i => (SE l i).2 = true → SE (l ++ m) i = SE l i) ?_ ?_ ?_ ?_ i
  · intro i h h2; rw [SE_out h] at h2; simp at h2
  · intro i h ih h2; rw [SE_esc h] at h2 ⊢; rw [SE_esc (get_app h)]; exact ih h2
  · intro i h _; rw [SE_quote h, SE_quote (get_app h)]
  · intro i c h h1 h2 ih h3; rw [SE_other h h1 h2] at h3 ⊢; rw [SE_other (get_app h) h1 h2]; exact ih h3

theorem SE_past {l : List UInt8} (m : List UInt8) (i : Nat) : (SE l i).2 = false → (SE (l ++ m) i).2 = true → l.length < (SE (l ++ m) i).1 := by
  refine SE_ind (l := l) (P := fun i => (SE l i).2 = false → (SE (l ++ m) i).2 = true → l.length < (SE (l ++ m) i).1) ?_ ?_ ?_ ?_ i
  · intro i h _ h3; have := (SE_true i h3).1; omega
  · intro i h ih h2 h3; rw [SE_esc h] at h2; rw [SE_esc (get_app h)] at h3 ⊢; exact ih h2 h3
  · intro i h h2 _; rw [SE_quote h] at h2; simp at h2
  · intro i c h h1 h2 ih h3 h4; rw [SE_other h h1 h2] at h3; rw [SE_other (get_app h) h1 h2] at h4 ⊢; exact ih h3 h4

/-- The run of backslashes just ahead of q, from i on. -/
def bs (l : List UInt8) (i : Nat) : Nat → Nat
  | 0 => 0
  | q + 1 => if i ≤ q ∧ l[q]? = some 92 then bs l i q + 1 else 0

theorem bs_low {l : List UInt8} {i : Nat} : ∀ {q : Nat}, q ≤ i → bs l i q = 0
  | 0, _ => rfl
  | q + 1, h => by simp only [bs]; rw [if_neg (by omega)]
theorem bs_le {l : List UInt8} {i : Nat} : ∀ q : Nat, bs l i q ≤ q
  | 0 => Nat.le_refl _
  | q + 1 => by simp only [bs]; have := bs_le (l := l) (i := i) q; split <;> omega

/-- Does the quote at q close the literal? -/
def Closes (l : List UInt8) (i q : Nat) : Prop := l[q]? = some 34 ∧ bs l i q % 2 = 0

theorem parity {l : List UInt8} {i : Nat} : ∀ q : Nat, i ≤ q → q ≤ l.length → (∀ p, i ≤ p → p < q → ¬ Closes l i p) → (bs l i q % 2 = 0 → SE l i = SE l q) ∧ (bs l i q % 2 = 1 → SE l i = SE l (q + 1)) := by
  intro q
  induction q with
  | zero =>
    intro h _ _
    have hi : i = 0 := by omega
    subst hi
    exact ⟨fun _ => rfl, fun h => by simp [bs] at h⟩
  | succ q ih =>
    intro h1 h2 h3
    rcases Nat.lt_or_ge q i with hq | hq
    · obtain rfl : i = q + 1 := by omega
      rw [bs_low (Nat.le_refl _)]
      exact ⟨fun _ => rfl, fun h => by simp at h⟩
    · obtain ⟨e, o⟩ := ih hq (by omega) (fun p hp hpq => h3 p hp (by omega))
      have hc : l[q]? = some l[q] := List.getElem?_eq_getElem (by omega)
      generalize l[q] = c at hc
      by_cases hb : c = 92
      · subst hb
        have hbs : bs l i (q + 1) = bs l i q + 1 := by simp only [bs]; rw [if_pos ⟨hq, hc⟩]
        rw [hbs]
        constructor
        · intro hm; exact o (by omega)
        · intro hm; rw [e (by omega)]; exact SE_esc hc
      · have hbs : bs l i (q + 1) = 0 := by simp only [bs]; rw [if_neg (by rw [hc]; simp [hb])]
        rw [hbs]
        refine ⟨fun _ => ?_, fun h => by simp at h⟩
        by_cases hm : bs l i q % 2 = 0
        · rw [e hm]
          refine SE_other hc hb (fun h => ?_)
          subst h
          exact h3 q hq (by omega) ⟨hc, hm⟩
        · exact o (by omega)

theorem close_at {l : List UInt8} {i q : Nat} (h1 : i ≤ q) (h2 : ∀ p, i ≤ p → p < q → ¬ Closes l i p) (hc : Closes l i q) : SE l i = (q + 1, true) := by
  have hq := (List.getElem?_eq_some_iff.1 hc.1).1
  rw [(parity q h1 (by omega) h2).1 hc.2, SE_quote hc.1]
theorem close_none {l : List UInt8} {i : Nat} (h2 : ∀ p, i ≤ p → p < l.length → ¬ Closes l i p) : SE l i = (l.length, false) := by
  rcases Nat.lt_or_ge l.length i with h | h
  · exact SE_out (by omega)
  · obtain ⟨e, o⟩ := parity l.length h (Nat.le_refl _) h2
    by_cases hm : bs l i l.length % 2 = 0
    · rw [e hm]; exact SE_out (Nat.le_refl _)
    · rw [o (by omega)]; exact SE_out (by omega)
end Go.Proofs.Qxb6619358a.Se

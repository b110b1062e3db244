/-
  THE PLAIN LAW of 'sets.flip': no Go in sight. A set is a node of a complete binary tree over words; nodes are interned in two tables.
-/
namespace Go.Proofs.Qxb6619265a.Flip

/-- The two tables: the words, and the pairs of children. -/
structure St where
  ws : List Nat
  ps : List (Nat × Nat)

def child (p : Nat × Nat) (b : Nat) : Nat := if b = 0 then p.1 else p.2
def setChild (p : Nat × Nat) (b c : Nat) : Nat × Nat := if b = 0 then (c, p.2) else (p.1, c)
def bit (m l : Nat) : Nat := (m / 64 / 2 ^ l) % 2

def putWord (s : St) (x : Nat) : St × Nat :=
  match s.ws.idxOf? x with
  | some k => (s, k)
  | none => ({ s with ws := s.ws ++ [x] }, s.ws.length)
def putPair (s : St) (p : Nat × Nat) : St × Nat :=
  match s.ps.idxOf? p with
  | some k => (s, k)
  | none => ({ s with ps := s.ps ++ [p] }, s.ps.length)

def flipWord (x i : Nat) : Nat := x ^^^ 2 ^ (i % 64)

def flipAt (i : Nat) : Nat → St → Nat → St × Nat
  | 0, s, n => putWord s (flipWord (s.ws.getD n 0) i)
  | l + 1, s, n =>
    let r := flipAt i l s (child (s.ps.getD n (0, 0)) (bit i l))
    putPair r.1 (setChild (s.ps.getD n (0, 0)) (bit i l) r.2)

/-- The node that a name leads to on the way down to i's word, at level 'l' of 'l + k'. -/
def nodeAt (i : Nat) (s : St) : Nat → Nat → Nat → Nat
  | _, 0, n => n
  | l, k + 1, n => child (s.ps.getD (nodeAt i s (l + 1) k n) (0, 0)) (bit i l)

def den (s : St) : Nat → Nat → Nat → Bool
  | 0, n, m => (s.ws.getD n 0).testBit (m % 64)
  | l + 1, n, m => den s l (child (s.ps.getD n (0, 0)) (bit m l)) m

def Valid (s : St) : Nat → Nat → Prop
  | 0, n => n < s.ws.length
  | l + 1, n => n < s.ps.length ∧ Valid s l (s.ps.getD n (0, 0)).1 ∧ Valid s l (s.ps.getD n (0, 0)).2

structure Inv (s : St) : Prop where
  wd : s.ws.Nodup
  pd : s.ps.Nodup
  w0 : s.ws[0]? = some 0
  p0 : s.ps[0]? = some (0, 0)
  wb : ∀ x ∈ s.ws, x < 2 ^ 64

/-- 't' has all of 's', in its place, and perhaps more. -/
def Ext (s t : St) : Prop := s.ws <+: t.ws ∧ s.ps <+: t.ps

theorem Ext.refl (s : St) : Ext s s := ⟨List.prefix_refl _, List.prefix_refl _⟩
theorem Ext.trans {a b c : St} (h : Ext a b) (k : Ext b c) : Ext a c := ⟨h.1.trans k.1, h.2.trans k.2⟩

theorem getD_pre {α : Type} {a b : List α} (h : a <+: b) {n : Nat} (hn : n < a.length) (d : α) : b.getD n d = a.getD n d := by
  obtain ⟨t, rfl⟩ := h
  simp [List.getD, List.getElem?_append_left hn]

theorem Valid.ext {s t : St} (h : Ext s t) : ∀ {l n : Nat}, Valid s l n → Valid t l n
  | 0, n, v => Nat.lt_of_lt_of_le v h.1.length_le
  | l + 1, n, v => by
    refine ⟨Nat.lt_of_lt_of_le v.1 h.2.length_le, ?_⟩
    rw [getD_pre h.2 v.1]
    exact ⟨v.2.1.ext h, v.2.2.ext h⟩

theorem Valid.child {s : St} {l n : Nat} (v : Valid s (l + 1) n) (b : Nat) : Valid s l (child (s.ps.getD n (0, 0)) b) := by
  unfold Flip.child; split
  · exact v.2.1
  · exact v.2.2

theorem den_ext {s t : St} (h : Ext s t) (m : Nat) : ∀ {l n : Nat}, Valid s l n → den t l n m = den s l n m
  | 0, n, v => by simp only [den]; rw [getD_pre h.1 v]
  | l + 1, n, v => by
    simp only [den]; rw [getD_pre h.2 v.1]
    exact den_ext h m (v.child _)

theorem valid_zero {s : St} (h : Inv s) : ∀ l, Valid s l 0
  | 0 => by
    have := h.w0; simp only [Valid]
    rcases Nat.lt_or_ge 0 s.ws.length with k | k
    · exact k
    · rw [List.getElem?_eq_none k] at this; cases this
  | l + 1 => by
    have e := h.p0
    have hl : 0 < s.ps.length := by
      rcases Nat.lt_or_ge 0 s.ps.length with k | k
      · exact k
      · rw [List.getElem?_eq_none k] at e; cases e
    have hd : s.ps.getD 0 (0, 0) = (0, 0) := by simp [List.getD, e]
    refine ⟨hl, ?_⟩
    rw [hd]; exact ⟨valid_zero h l, valid_zero h l⟩

theorem den_zero {s : St} (h : Inv s) (m : Nat) : ∀ l, den s l 0 m = false
  | 0 => by simp [den, List.getD, h.w0]
  | l + 1 => by
    have hd : s.ps.getD 0 (0, 0) = (0, 0) := by simp [List.getD, h.p0]
    simp only [den]; rw [hd]
    have : child (0, 0) (bit m l) = 0 := by unfold child; split <;> rfl
    rw [this]; exact den_zero h m l

theorem idxOf?_spec {α : Type} [BEq α] [LawfulBEq α] (l : List α) (x : α) :
    (∃ k, l.idxOf? x = some k ∧ k < l.length ∧ l[k]? = some x) ∨ (l.idxOf? x = none ∧ x ∉ l) := by
  cases e : l.idxOf? x with
  | none => right; exact ⟨rfl, by simpa [List.idxOf?_eq_none_iff] using e⟩
  | some k =>
    left; refine ⟨k, rfl, ?_⟩
    rw [List.idxOf?, List.findIdx?_eq_some_iff_getElem] at e
    obtain ⟨hk, hp, _⟩ := e
    exact ⟨hk, by rw [List.getElem?_eq_getElem hk]; simpa using hp⟩

theorem putWord_spec {s : St} (h : Inv s) {x : Nat} (hx : x < 2 ^ 64) :
    Inv (putWord s x).1 ∧ Ext s (putWord s x).1 ∧ (putWord s x).2 < (putWord s x).1.ws.length ∧ (putWord s x).1.ws.getD (putWord s x).2 0 = x ∧
      (putWord s x).1.ws.length ≤ s.ws.length + 1 ∧ (putWord s x).1.ps = s.ps := by
  unfold putWord
  rcases idxOf?_spec s.ws x with ⟨k, e, hk, hv⟩ | ⟨e, hn⟩
  · rw [e]; exact ⟨h, Ext.refl _, hk, by simp [List.getD, hv], by simp, rfl⟩
  · rw [e]
    refine ⟨⟨?_, h.pd, ?_, h.p0, ?_⟩, ⟨List.prefix_append _ _, List.prefix_refl _⟩, by simp, by simp [List.getD], by simp, rfl⟩
    · show (s.ws ++ [x]).Nodup
      rw [List.nodup_append]
      exact ⟨h.wd, by simp, fun a ha b hb => by simp at hb; subst hb; rintro rfl; exact hn ha⟩
    · show (s.ws ++ [x])[0]? = some 0
      have := h.w0
      have hl : 0 < s.ws.length := by
        rcases Nat.lt_or_ge 0 s.ws.length with k | k
        · exact k
        · rw [List.getElem?_eq_none k] at this; cases this
      rw [List.getElem?_append_left hl]; exact this
    · intro y hy
      simp at hy
      rcases hy with hy | rfl
      · exact h.wb y hy
      · exact hx

theorem putPair_spec {s : St} (h : Inv s) (p : Nat × Nat) :
    Inv (putPair s p).1 ∧ Ext s (putPair s p).1 ∧ (putPair s p).2 < (putPair s p).1.ps.length ∧ (putPair s p).1.ps.getD (putPair s p).2 (0, 0) = p ∧
      (putPair s p).1.ps.length ≤ s.ps.length + 1 ∧ (putPair s p).1.ws = s.ws := by
  unfold putPair
  rcases idxOf?_spec s.ps p with ⟨k, e, hk, hv⟩ | ⟨e, hn⟩
  · rw [e]; exact ⟨h, Ext.refl _, hk, by simp [List.getD, hv], by simp, rfl⟩
  · rw [e]
    refine ⟨⟨h.wd, ?_, h.w0, ?_, h.wb⟩, ⟨List.prefix_refl _, List.prefix_append _ _⟩, by simp, by simp [List.getD], by simp, rfl⟩
    · show (s.ps ++ [p]).Nodup
      rw [List.nodup_append]
      exact ⟨h.pd, by simp, fun a ha b hb => by simp at hb; subst hb; rintro rfl; exact hn ha⟩
    · show (s.ps ++ [p])[0]? = some (0, 0)
      have := h.p0
      have hl : 0 < s.ps.length := by
        rcases Nat.lt_or_ge 0 s.ps.length with k | k
        · exact k
        · rw [List.getElem?_eq_none k] at this; cases this
      rw [List.getElem?_append_left hl]; exact this

/-- Do 'i' and 'm' lead to the same bit, as far as the words and 'l' levels above them tell? -/
def agree (i m : Nat) : Nat → Bool
  | 0 => m % 64 == i % 64
  | l + 1 => bit m l == bit i l && agree i m l

theorem bit_two (m l : Nat) : bit m l = 0 ∨ bit m l = 1 := by unfold bit; omega

theorem getD_lt {l : List Nat} {b : Nat} (h : ∀ x ∈ l, x < b) (hb : 0 < b) (n : Nat) : l.getD n 0 < b := by
  unfold List.getD
  cases e : l[n]? with
  | none => simpa
  | some v => simp; exact h v (List.mem_of_getElem? e)

theorem flipWord_lt {x : Nat} (hx : x < 2 ^ 64) (i : Nat) : flipWord x i < 2 ^ 64 := by
  unfold flipWord
  exact Nat.xor_lt_two_pow hx (Nat.pow_lt_pow_right (by decide) (Nat.mod_lt _ (by decide)))

theorem flipWord_bit (x i m : Nat) : (flipWord x i).testBit (m % 64) = ((x.testBit (m % 64)) ^^ (m % 64 == i % 64)) := by
  unfold flipWord
  rw [Nat.testBit_xor, Nat.testBit_two_pow]
  congr 1
  rw [Bool.eq_iff_iff]; simp; omega

theorem flipAt_spec (i : Nat) : ∀ (l : Nat) {s : St} {n : Nat}, Inv s → Valid s l n →
    Inv (flipAt i l s n).1 ∧ Ext s (flipAt i l s n).1 ∧ Valid (flipAt i l s n).1 l (flipAt i l s n).2 ∧
      (∀ m, den (flipAt i l s n).1 l (flipAt i l s n).2 m = (den s l n m ^^ agree i m l)) ∧
      (flipAt i l s n).1.ws.length ≤ s.ws.length + 1 ∧ (flipAt i l s n).1.ps.length ≤ s.ps.length + l
  | 0, s, n, h, v => by
    have hx : flipWord (s.ws.getD n 0) i < 2 ^ 64 := flipWord_lt (getD_lt h.wb (by decide) n) i
    obtain ⟨a, b, c, d, e, f⟩ := putWord_spec h hx
    simp only [flipAt]
    refine ⟨a, b, c, ?_, e, by rw [f]; omega⟩
    intro m
    simp only [den, agree]; rw [d, flipWord_bit]
  | l + 1, s, n, h, v => by
    obtain ⟨a1, b1, c1, d1, e1, f1⟩ := flipAt_spec i l h (v.child (bit i l))
    obtain ⟨a2, b2, c2, d2, e2, f2⟩ := putPair_spec a1 (setChild (s.ps.getD n (0, 0)) (bit i l) (flipAt i l s (child (s.ps.getD n (0, 0)) (bit i l))).2)
    simp only [flipAt]
    generalize flipAt i l s (child (s.ps.getD n (0, 0)) (bit i l)) = r at *
    generalize hp : s.ps.getD n (0, 0) = p at *
    generalize hq : putPair r.1 (setChild p (bit i l) r.2) = q at *
    have hv : Valid s l p.1 ∧ Valid s l p.2 := by have := v.2; rw [hp] at this; exact this
    refine ⟨a2, b1.trans b2, ⟨c2, ?_⟩, ?_, by rw [f2]; exact e1, by omega⟩
    · rw [d2]
      unfold setChild; split
      · exact ⟨c1.ext b2, (hv.2.ext b1).ext b2⟩
      · exact ⟨(hv.1.ext b1).ext b2, c1.ext b2⟩
    · intro m
      have e3 := d1 m
      simp only [den, agree]; rw [d2, hp]
      rcases bit_two m l with hm | hm <;> rcases bit_two i l with hi | hi <;> rw [hm, hi] <;> rw [hi] at e3 <;> simp [child, setChild] at e3 ⊢
      · rw [den_ext b2 m c1, e3]
      · rw [den_ext b2 m (hv.1.ext b1), den_ext b1 m hv.1]
      · rw [den_ext b2 m (hv.2.ext b1), den_ext b1 m hv.2]
      · rw [den_ext b2 m c1, e3]

theorem nodup_getD {α : Type} {l : List α} (h : l.Nodup) {a b : Nat} (ha : a < l.length) (hb : b < l.length) (d : α) (e : l.getD a d = l.getD b d) : a = b := by
  simp only [List.getD, List.getElem?_eq_getElem ha, List.getElem?_eq_getElem hb, Option.getD_some] at e
  exact (List.getElem_inj h).1 e

/-- TWO SETS OF THE SAME MEMBERS HAVE ONE NAME. -/
theorem canon {s : St} (h : Inv s) : ∀ (l : Nat) {a b : Nat}, Valid s l a → Valid s l b → (∀ m, m < 64 * 2 ^ l → den s l a m = den s l b m) → a = b
  | 0, a, b, va, vb, e => by
    refine nodup_getD h.wd va vb 0 ?_
    apply Nat.eq_of_testBit_eq
    intro j
    by_cases hj : j < 64
    · have := e j (by simpa using hj)
      simpa [den, Nat.mod_eq_of_lt hj] using this
    · have hlt : ∀ n, s.ws.getD n 0 < 2 ^ j := fun n => Nat.lt_of_lt_of_le (getD_lt h.wb (by decide) n) (Nat.pow_le_pow_right (by decide) (by omega))
      rw [Nat.testBit_lt_two_pow (hlt a), Nat.testBit_lt_two_pow (hlt b)]
  | l + 1, a, b, va, vb, e => by
    refine nodup_getD h.pd va.1 vb.1 (0, 0) ?_
    have hpow : 64 * 2 ^ (l + 1) = 64 * 2 ^ l + 64 * 2 ^ l := by rw [Nat.pow_succ]; omega
    have hb0 : ∀ m, m < 64 * 2 ^ l → bit m l = 0 := by
      intro m hm
      unfold bit
      rw [Nat.div_div_eq_div_mul, Nat.div_eq_of_lt hm]
    have hb1 : ∀ m, m < 64 * 2 ^ l → bit (m + 64 * 2 ^ l) l = 1 := by
      intro m hm
      unfold bit
      have hp : 0 < 64 * 2 ^ l := Nat.mul_pos (by decide) (Nat.pow_pos (by decide))
      rw [Nat.div_div_eq_div_mul, Nat.add_div_right _ hp, Nat.div_eq_of_lt hm]
    have hsh : ∀ (k : Nat), k ≤ l → ∀ (n m : Nat), den s k n (m + 64 * 2 ^ l) = den s k n m := by
      intro k
      induction k with
      | zero => intro _ n m; simp only [den]; rw [show (m + 64 * 2 ^ l) % 64 = m % 64 from by omega]
      | succ k ih =>
        intro hk n m
        simp only [den]
        rw [ih (by omega)]
        have : bit (m + 64 * 2 ^ l) k = bit m k := by
          unfold bit
          rw [Nat.add_mul_div_left _ _ (by decide : 0 < 64)]
          have : 2 ^ l = 2 ^ k * (2 * 2 ^ (l - k - 1)) := by rw [← Nat.mul_assoc, ← Nat.pow_succ, ← Nat.pow_add]; congr 1; omega
          rw [this, Nat.add_mul_div_left _ _ (Nat.pow_pos (by decide))]
          omega
        rw [this]
    have h1 : (s.ps.getD a (0, 0)).1 = (s.ps.getD b (0, 0)).1 := by
      refine canon h l va.2.1 vb.2.1 (fun m hm => ?_)
      have := e m (by omega)
      simpa only [den, hb0 m hm, child, if_pos] using this
    have h2 : (s.ps.getD a (0, 0)).2 = (s.ps.getD b (0, 0)).2 := by
      refine canon h l va.2.2 vb.2.2 (fun m hm => ?_)
      have := e (m + 64 * 2 ^ l) (by omega)
      simp only [den, hb1 m hm, child] at this
      rw [hsh l (Nat.le_refl _), hsh l (Nat.le_refl _)] at this
      simpa using this
    exact Prod.ext h1 h2

theorem nodeAt_valid {i : Nat} {s : St} {L n : Nat} (h : Valid s L n) : ∀ (k l : Nat), l + k = L → Valid s l (nodeAt i s l k n)
  | 0, l, e => by simp only [nodeAt]; rw [Nat.add_zero] at e; subst e; exact h
  | k + 1, l, e => by simp only [nodeAt]; exact (nodeAt_valid h k (l + 1) (by omega)).child _

theorem agree_iff (i m : Nat) : ∀ l, agree i m l = true ↔ m % (64 * 2 ^ l) = i % (64 * 2 ^ l)
  | 0 => by simp [agree]
  | l + 1 => by
    have ih := agree_iff i m l
    simp only [agree, Bool.and_eq_true, beq_iff_eq]
    rw [ih]
    have hp : 64 * 2 ^ (l + 1) = 64 * 2 ^ l * 2 := by rw [Nat.pow_succ]; omega
    have mm : ∀ x, x % (64 * 2 ^ l * 2) = x % (64 * 2 ^ l) + 64 * 2 ^ l * (x / (64 * 2 ^ l) % 2) := fun x => Nat.mod_mul
    rw [hp, mm, mm]
    have e : ∀ x, bit x l = x / (64 * 2 ^ l) % 2 := by intro x; unfold bit; rw [Nat.div_div_eq_div_mul]
    rw [← e, ← e]
    generalize bit m l = p
    generalize bit i l = q
    have hpos : 0 < 64 * 2 ^ l := Nat.mul_pos (by decide) (Nat.pow_pos (by decide))
    have h1 := Nat.mod_lt m hpos
    have h2 := Nat.mod_lt i hpos
    generalize m % (64 * 2 ^ l) = x at *
    generalize i % (64 * 2 ^ l) = y at *
    generalize 64 * 2 ^ l = z at *
    constructor
    · rintro ⟨rfl, rfl⟩; rfl
    · intro hh
      have hx : (x + z * p) % z = (y + z * q) % z := by rw [hh]
      rw [Nat.add_mul_mod_self_left, Nat.add_mul_mod_self_left, Nat.mod_eq_of_lt h1, Nat.mod_eq_of_lt h2] at hx
      subst hx
      exact ⟨Nat.eq_of_mul_eq_mul_left hpos (by omega), rfl⟩

theorem agree_eq {i m l : Nat} (hi : i < 64 * 2 ^ l) (hm : m < 64 * 2 ^ l) : agree i m l = decide (m = i) := by
  rw [Bool.eq_iff_iff, agree_iff, Nat.mod_eq_of_lt hi, Nat.mod_eq_of_lt hm]; simp
end Go.Proofs.Qxb6619265a.Flip

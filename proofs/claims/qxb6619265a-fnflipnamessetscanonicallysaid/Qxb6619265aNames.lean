import Derived.Test.Qxb6619265aPlain
namespace Go.Proofs.Qxb6619265a.Flip

/-! ### names of sets at every height: at height 0 a name is the word itself -/
def flipN (L i : Nat) (s : St) (n : Nat) : St × Nat := if L = 0 then (s, flipWord n i) else flipAt i L s n
def denN (s : St) (L n m : Nat) : Bool := if L = 0 then n.testBit (m % 64) else den s L n m
def ValidN (s : St) (L n : Nat) : Prop := if L = 0 then n < 2 ^ 64 else Valid s L n
def empty : St := { ws := [0], ps := [(0, 0)] }

theorem inv_empty : Inv empty := ⟨by simp [empty], by simp [empty], rfl, rfl, by simp [empty]⟩

theorem ValidN.ext {s t : St} (h : Ext s t) {L n : Nat} (v : ValidN s L n) : ValidN t L n := by
  unfold ValidN at *; split at v
  · rw [if_pos ‹_›]; exact v
  · rw [if_neg ‹_›]; exact Valid.ext h v

theorem denN_ext {s t : St} (h : Ext s t) {L n : Nat} (v : ValidN s L n) (m : Nat) : denN t L n m = denN s L n m := by
  unfold ValidN at v; unfold denN
  by_cases hL : L = 0
  · rw [if_pos hL, if_pos hL]
  · rw [if_neg hL, if_neg hL]; rw [if_neg hL] at v; exact den_ext h m v

theorem validN_zero {s : St} (h : Inv s) (L : Nat) : ValidN s L 0 := by
  unfold ValidN; split
  · decide
  · exact valid_zero h L

theorem denN_zero {s : St} (h : Inv s) (L m : Nat) : denN s L 0 m = false := by
  unfold denN; split
  · simp
  · exact den_zero h m L

theorem flipN_spec {L i : Nat} {s : St} {n : Nat} (h : Inv s) (v : ValidN s L n) :
    Inv (flipN L i s n).1 ∧ Ext s (flipN L i s n).1 ∧ ValidN (flipN L i s n).1 L (flipN L i s n).2 ∧
      (∀ m, denN (flipN L i s n).1 L (flipN L i s n).2 m = (denN s L n m ^^ agree i m L)) ∧
      (flipN L i s n).1.ws.length ≤ s.ws.length + 1 ∧ (flipN L i s n).1.ps.length ≤ s.ps.length + L := by
  unfold flipN
  by_cases hL : L = 0
  · subst hL
    unfold ValidN at v
    simp only [if_true] at v ⊢
    refine ⟨h, Ext.refl _, ?_, ?_, by omega, by omega⟩
    · unfold ValidN; rw [if_pos rfl]; exact flipWord_lt v i
    · intro m; simp only [denN, if_true, agree]; exact flipWord_bit n i m
  · unfold ValidN at v; rw [if_neg hL] at v
    rw [if_neg hL]
    obtain ⟨a, b, c, d, e, f⟩ := flipAt_spec i L h v
    refine ⟨a, b, by unfold ValidN; rw [if_neg hL]; exact c, ?_, e, f⟩
    intro m; unfold denN; rw [if_neg hL, if_neg hL]; exact d m

theorem canonN {s : St} (h : Inv s) {L a b : Nat} (va : ValidN s L a) (vb : ValidN s L b) (e : ∀ m, m < 64 * 2 ^ L → denN s L a m = denN s L b m) : a = b := by
  unfold ValidN at va vb
  unfold denN at e
  by_cases hL : L = 0
  · subst hL
    simp only [if_true] at va vb e
    apply Nat.eq_of_testBit_eq
    intro j
    by_cases hj : j < 64
    · have := e j (by simpa using hj)
      rwa [Nat.mod_eq_of_lt hj] at this
    · have hlt : ∀ n, n < 2 ^ 64 → n < 2 ^ j := fun n hn => Nat.lt_of_lt_of_le hn (Nat.pow_le_pow_right (by decide) (by omega))
      rw [Nat.testBit_lt_two_pow (hlt a va), Nat.testBit_lt_two_pow (hlt b vb)]
  · rw [if_neg hL] at va vb
    simp only [if_neg hL] at e
    exact canon h L va vb e

/-! ### THE SECOND LAW: a flip changes the set, a second one undoes it, two commute -/
theorem undo {L i j n : Nat} {s : St} (h : Inv s) (v : ValidN s L n) (hi : i < 64 * 2 ^ L) (hj : j < 64 * 2 ^ L) :
    let r1 := flipN L i s n
    let r2 := flipN L i r1.1 r1.2
    let r3 := flipN L j r2.1 r1.2
    let r4 := flipN L j r3.1 n
    let r5 := flipN L i r4.1 r4.2
    r1.2 ≠ n ∧ r2.2 = n ∧ r3.2 = r5.2 ∧ (r3.2 = n ↔ i = j) := by
  intro r1 r2 r3 r4 r5
  obtain ⟨a1, b1, c1, d1, _, _⟩ := flipN_spec (i := i) h v
  obtain ⟨a2, b2, c2, d2, _, _⟩ := flipN_spec (i := i) a1 c1
  obtain ⟨a3, b3, c3, d3, _, _⟩ := flipN_spec (i := j) a2 (c1.ext b2)
  have vn3 : ValidN r3.1 L n := ((v.ext b1).ext b2).ext b3
  obtain ⟨a4, b4, c4, d4, _, _⟩ := flipN_spec (i := j) a3 vn3
  obtain ⟨a5, b5, c5, d5, _, _⟩ := flipN_spec (i := i) a4 c4
  -- everything, told in the last table
  have n0 : ∀ m, denN r5.1 L n m = denN s L n m := fun m => denN_ext ((((b1.trans b2).trans b3).trans b4).trans b5) v m
  have n1 : ∀ m, denN r5.1 L r1.2 m = (denN s L n m ^^ agree i m L) := fun m => by
    rw [denN_ext (((b2.trans b3).trans b4).trans b5) c1]; exact d1 m
  have n2 : ∀ m, denN r5.1 L r2.2 m = (denN s L n m ^^ agree i m L ^^ agree i m L) := fun m => by
    rw [denN_ext ((b3.trans b4).trans b5) c2]; exact (d2 m).trans (by rw [show denN (flipN L i s n).1 L (flipN L i s n).2 m = _ from d1 m])
  have n3 : ∀ m, denN r5.1 L r3.2 m = (denN s L n m ^^ agree i m L ^^ agree j m L) := fun m => by
    rw [denN_ext (b4.trans b5) c3]
    refine (d3 m).trans ?_
    rw [denN_ext b2 c1 m]
    exact congrArg (fun x => x ^^ agree j m L) (d1 m)
  have n5 : ∀ m, denN r5.1 L r5.2 m = (denN s L n m ^^ agree j m L ^^ agree i m L) := fun m => by
    refine (d5 m).trans ?_
    refine congrArg (fun x => x ^^ agree i m L) ((d4 m).trans ?_)
    exact congrArg (fun x => x ^^ agree j m L) (denN_ext ((b1.trans b2).trans b3) v m)
  have v0 : ValidN r5.1 L n := (vn3.ext b4).ext b5
  have v1 : ValidN r5.1 L r1.2 := (((c1.ext b2).ext b3).ext b4).ext b5
  have v2 : ValidN r5.1 L r2.2 := ((c2.ext b3).ext b4).ext b5
  have v3 : ValidN r5.1 L r3.2 := (c3.ext b4).ext b5
  refine ⟨?_, ?_, ?_, ?_⟩
  · intro e
    have := n1 i
    rw [e, n0 i, agree_eq hi hi] at this
    cases hh : denN s L n i <;> simp [hh] at this
  · refine canonN a5 v2 v0 (fun m _ => ?_)
    rw [n2, n0, Bool.xor_assoc, Bool.xor_self, Bool.xor_false]
  · refine canonN a5 v3 c5 (fun m _ => ?_)
    rw [n3, n5, Bool.xor_assoc, Bool.xor_assoc, Bool.xor_comm (agree i m L)]
  · constructor
    · intro e
      have := n3 i
      rw [e, n0 i, agree_eq hi hi, agree_eq hj hi] at this
      cases hh : denN s L n i <;> simp [hh] at this <;> exact this
    · rintro rfl
      refine canonN a5 v3 v0 (fun m _ => ?_)
      rw [n3, n0, Bool.xor_assoc, Bool.xor_self, Bool.xor_false]

theorem snocInd {α : Type} {P : List α → Prop} (h0 : P []) (h1 : ∀ (l : List α) (x : α), P l → P (l ++ [x])) (l : List α) : P l := by
  have : ∀ l : List α, P l.reverse := by
    intro l
    induction l with
    | nil => simpa using h0
    | cons x xs ih => simpa using h1 _ x ih
  simpa using this l.reverse

/-! ### a script of flips -/
def par (l : List Nat) (m : Nat) : Bool := l.foldl (fun b x => b ^^ (x == m)) false

def runFrom (L : Nat) : List Nat → St × Nat → St × Nat
  | [], r => r
  | x :: xs, r => runFrom L xs (flipN L x r.1 r.2)
def run (L : Nat) (l : List Nat) : St × Nat := runFrom L l (empty, 0)

theorem runFrom_append (L : Nat) : ∀ (a b : List Nat) (r : St × Nat), runFrom L (a ++ b) r = runFrom L b (runFrom L a r)
  | [], _, _ => rfl
  | x :: xs, b, r => by simp only [List.cons_append, runFrom]; exact runFrom_append L xs b _

theorem run_snoc (L : Nat) (l : List Nat) (x : Nat) : run L (l ++ [x]) = flipN L x (run L l).1 (run L l).2 := by
  unfold run; rw [runFrom_append]; rfl

theorem par_snoc (l : List Nat) (x m : Nat) : par (l ++ [x]) m = (par l m ^^ (x == m)) := by unfold par; rw [List.foldl_append]; rfl

theorem par_append (a : List Nat) (m : Nat) : ∀ b, par (a ++ b) m = (par a m ^^ par b m) := by
  intro b
  induction b using snocInd with
  | h0 => simp [par]
  | h1 b x ih => rw [← List.append_assoc, par_snoc, ih, par_snoc, Bool.xor_assoc]

structure Ran (L : Nat) (l : List Nat) : Prop where
  inv : Inv (run L l).1
  val : ValidN (run L l).1 L (run L l).2
  den : ∀ m, m < 64 * 2 ^ L → denN (run L l).1 L (run L l).2 m = par l m
  wl : (run L l).1.ws.length ≤ 1 + l.length
  pl : (run L l).1.ps.length ≤ 1 + L * l.length

theorem ran (L : Nat) (l : List Nat) (hl : ∀ x ∈ l, x < 64 * 2 ^ L) : Ran L l := by
  induction l using snocInd with
  | h0 =>
    refine ⟨inv_empty, validN_zero inv_empty L, fun m _ => ?_, by simp [run, runFrom, empty], by simp [run, runFrom, empty]⟩
    rw [show par [] m = false from rfl]; exact denN_zero inv_empty L m
  | h1 l x ih =>
    have ih := ih (fun y hy => hl y (by simp [hy]))
    have hx := hl x (by simp)
    obtain ⟨a, b, c, d, e, f⟩ := flipN_spec (i := x) ih.inv ih.val
    have := ih.wl
    have := ih.pl
    refine ⟨by rw [run_snoc]; exact a, by rw [run_snoc]; exact c, fun m hm => ?_, by rw [run_snoc]; simp; omega, ?_⟩
    · rw [run_snoc, d m, ih.den m hm, agree_eq hx hm, par_snoc]
      congr 1
      rw [Bool.eq_iff_iff]; simp; omega
    · rw [run_snoc]; simp [Nat.mul_add]; omega

theorem run_ext (L : Nat) (a : List Nat) : ∀ (b : List Nat), (∀ x ∈ a ++ b, x < 64 * 2 ^ L) → Ext (run L a).1 (run L (a ++ b)).1 := by
  intro b
  induction b using snocInd with
  | h0 => intro _; rw [List.append_nil]; exact Ext.refl _
  | h1 b x ih =>
    intro h
    have h' : ∀ y ∈ a ++ b, y < 64 * 2 ^ L := fun y hy => h y (by rw [← List.append_assoc]; exact List.mem_append_left _ hy)
    rw [← List.append_assoc, run_snoc]
    have r := ran L (a ++ b) h'
    exact (ih h').trans (flipN_spec r.inv r.val).2.1

/-- TWO NAMES ALONG A SCRIPT ARE ONE JUST WHERE EVERY MEMBER WAS FLIPPED AN EVEN NUMBER OF TIMES BETWEEN THEM. -/
theorem name_eq (L : Nat) (a b : List Nat) (h : ∀ x ∈ a ++ b, x < 64 * 2 ^ L) : (run L (a ++ b)).2 = (run L a).2 ↔ ∀ m, par b m = false := by
  have ra := ran L a (fun x hx => h x (by simp [hx]))
  have rb := ran L (a ++ b) h
  have ex := run_ext L a b h
  have hden : ∀ m, m < 64 * 2 ^ L → denN (run L (a ++ b)).1 L (run L a).2 m = par a m := fun m hm => by rw [denN_ext ex ra.val]; exact ra.den m hm
  constructor
  · intro e m
    by_cases hm : m < 64 * 2 ^ L
    · have h1 := rb.den m hm
      rw [e, hden m hm, par_append] at h1
      cases hp : par a m <;> simp [hp] at h1 <;> exact h1
    · have : ∀ (l : List Nat), (∀ x ∈ l, x < 64 * 2 ^ L) → par l m = false := by
        intro l
        induction l using snocInd with
        | h0 => intro _; rfl
        | h1 l x ih =>
          intro hl
          rw [par_snoc, ih (fun y hy => hl y (by simp [hy]))]
          have := hl x (by simp)
          simp; omega
      exact this b (fun x hx => h x (by simp [hx]))
  · intro e
    refine canonN rb.inv rb.val (ra.val.ext ex) (fun m hm => ?_)
    rw [rb.den m hm, hden m hm, par_append, e m, Bool.xor_false]
end Go.Proofs.Qxb6619265a.Flip

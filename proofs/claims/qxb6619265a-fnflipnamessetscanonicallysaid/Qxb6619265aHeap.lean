/-
  Words on the heap for the flip seat: 'Only S w w'': w' is w but for new blocks and for the blocks in S; a block written out, its cells.
-/
import Derived.Test.Qxb6619265aRows
import Derived.Test.Qxb6619265aNames
import Derived.Maps.OwnSet
import Derived.Maps.AppendAt
import Derived.WalkKit
import Derived.WalkLawsBesides
import Derived.OneCell
namespace Go.Proofs.Qxb6619265a
open Go.RowKit Go.Maps

structure Only (S : Nat → Prop) (w w' : World) : Prop where
  os : w'.os = w.os
  tape : w'.tape = w.tape
  output : w'.output = w.output
  size : w.heap.size ≤ w'.heap.size
  block : ∀ k, k < w.heap.size → ¬ S k → w'.heap[k]? = w.heap[k]?

theorem Only.refl (S : Nat → Prop) (w : World) : Only S w w := ⟨rfl, rfl, rfl, Nat.le_refl _, fun _ _ _ => rfl⟩
theorem Only.trans {S : Nat → Prop} {a b c : World} (h : Only S a b) (k : Only S b c) : Only S a c :=
  ⟨k.os.trans h.os, k.tape.trans h.tape, k.output.trans h.output, Nat.le_trans h.size k.size, fun i hi hs => (k.block i (Nat.lt_of_lt_of_le hi h.size) hs).trans (h.block i hi hs)⟩
theorem Only.mono {S T : Nat → Prop} {a b : World} (h : Only S a b) (hST : ∀ k, k < a.heap.size → S k → T k) : Only T a b :=
  ⟨h.os, h.tape, h.output, h.size, fun k hk hT => h.block k hk (fun hs => hT (hST k hk hs))⟩
theorem Only.drew {S : Nat → Prop} {a b : World} (h : Only S a b) : Only S a b.drew := ⟨h.os, h.tape, h.output, h.size, h.block⟩
theorem Only.drewN {S : Nat → Prop} {a b : World} (h : Only S a b) (n : Nat) : Only S a (b.drewN n) := ⟨h.os, h.tape, h.output, h.size, h.block⟩
theorem Only.alloc {S : Nat → Prop} {a b : World} (h : Only S a b) (o : Obj) : Only S a (b.alloc o) :=
  h.trans ⟨rfl, rfl, rfl, by simp, fun k hk _ => Below.heap_alloc _ _ _ hk⟩
theorem Only.setCell {S : Nat → Prop} {a b : World} (h : Only S a b) {p : Addr} (hp : p.block < a.heap.size → S p.block) (u : Value) : Only S a (b.setCell p u) :=
  ⟨h.os, h.tape, h.output, by simpa [World.setCell] using h.size, fun k hk hs => (Below.heap_setCell _ _ _ _ (fun e => hs (by subst e; exact hp hk))).trans (h.block k hk hs)⟩
theorem Only.grown {S : Nat → Prop} {a b c : World} {row : Option Nat} (h : Only S a b) (hg : b.grownBy c row) (hr : ∀ k, row = some k → k < a.heap.size → S k) : Only S a c :=
  ⟨hg.os.trans h.os, hg.tape.trans h.tape, hg.output.trans h.output, Nat.le_trans h.size hg.size, fun k hk hs => (hg.block k (Nat.lt_of_lt_of_le hk h.size) (fun e => hs (hr k e.symm hk))).trans (h.block k hk hs)⟩
theorem Only.below {S : Nat → Prop} {a b : World} (h : Only S a b) {B : Nat} (hB : B ≤ a.heap.size) (hS : ∀ k, k < a.heap.size → S k → B ≤ k) : Below B a b :=
  ⟨h.os, h.tape, h.output, h.size, fun k hk => h.block k (by omega) (fun hs => by have := hS k (by omega) hs; omega)⟩

theorem blk_cell {w : World} {b o : Nat} {cs : Array Value} {t : TypeId} {v : Value} (h : w.heap[b]? = some (.cells cs t (0, 0))) (hv : cs[o]? = some v) : w.cell? ⟨b, o, none⟩ = some v := by
  simp [World.cell?, h, hv]
theorem blk_free {w : World} {b : Nat} {cs : Array Value} {t : TypeId} (h : w.heap[b]? = some (.cells cs t (0, 0))) (o : Nat) : w.frozen? ⟨b, o, none⟩ = false := by
  simp [World.frozen?, h]
theorem blk_setCell {w : World} {b o : Nat} {cs : Array Value} {t : TypeId} (h : w.heap[b]? = some (.cells cs t (0, 0))) (v : Value) : (w.setCell ⟨b, o, none⟩ v).heap[b]? = some (.cells (cs.setIfInBounds o v) t (0, 0)) := by
  have hlt := lt_of_block h
  have h' : w.heap[b] = .cells cs t (0, 0) := by simpa [Array.getElem?_eq_getElem hlt] using h
  show (w.heap.modify b _)[b]? = _
  rw [Array.getElem?_eq_getElem (by simpa using hlt), Array.getElem_modify_self, h']
  rfl

theorem Try.info34 : (Try.prog.info? 34).map (fun i => (i.zero, i.size, i.bytes)) = some (some (.int .u64 0), 1, 8) := by kernel_rfl
theorem Try.info47 : (Try.prog.info? 47).map (fun i => (i.zero, i.size, i.bytes)) = some (some (.agg #[.int .i32 0, .int .i32 0]), 2, 8) := by kernel_rfl
theorem lawK : Keyed Try.prog 34 := int_keyed Try.underlying34
theorem zero21 (w : World) : (zeroValue 21).run Try.prog w = .ok (.int .i32 0) w := by kernel_rfl

theorem wf_key {x : Nat} (h : x < 2 ^ 64) : (Lit.int .u64 (x : Int)).wf = true := WalkArith.wf_u64 (by omega)

/-- The words' cells. -/
def wcells (ws : List Nat) : List Value := ws.map fun y => Value.int .u64 (y : Nat)
/-- The pairs' cells. -/
def pcells (ps : List (Nat × Nat)) : List Value := ps.flatMap fun p => [Value.int .i32 (p.1 : Nat), Value.int .i32 (p.2 : Nat)]

/-- THE MAP 'D' GIVES, FOR EACH KEY IN THE LIST, ITS PLACE, AND HOLDS NO OTHER. -/
structure IsIndex (D : DataW Unit) (ks : List Nat) : Prop where
  hit : ∀ i x, ks[i]? = some x → Maps.has D (.int .u64 (x : Nat)) = true ∧ D.atKey (.int .u64 (x : Nat)) (.lit (.int .i32 0)) = .lit (.int .i32 (i : Nat))
  miss : ∀ x : Nat, x ∉ ks → Maps.has D (.int .u64 (x : Nat)) = false

theorem IsIndex.snoc {D : DataW Unit} {ks : List Nat} (h : IsIndex D ks) (hD : IsMap D) {x : Nat} (hx : x ∉ ks) : IsIndex (D.put (.int .u64 (x : Nat)) (.lit (.int .i32 (ks.length : Nat)))) (ks ++ [x]) := by
  refine ⟨fun i y hy => ?_, fun y hy => ?_⟩
  · by_cases hi : i < ks.length
    · rw [List.getElem?_append_left hi] at hy
      have hne : (Lit.int .u64 (y : Nat)) ≠ .int .u64 (x : Nat) := by
        intro e; simp at e; have : y = x := by omega
        subst this; exact hx (List.mem_of_getElem? hy)
      rw [has_put_other hne, atKey_put_other hne]
      exact h.hit i y hy
    · have hi' : i = ks.length := by
        have := (List.getElem?_eq_some_iff.1 hy).1
        simp at this; omega
      subst hi'
      simp at hy; subst hy
      exact ⟨has_put_same hD (show WideAt.IsKeyLit (Lit.int .u64 (x : Nat)) from trivial) _, atKey_put_same hD (show WideAt.IsKeyLit (Lit.int .u64 (x : Nat)) from trivial) _ _⟩
  · simp at hy
    have hne : (Lit.int .u64 (y : Nat)) ≠ .int .u64 (x : Nat) := by intro e; simp at e; omega
    rw [has_put_other hne]
    exact h.miss y hy.1
end Go.Proofs.Qxb6619265a

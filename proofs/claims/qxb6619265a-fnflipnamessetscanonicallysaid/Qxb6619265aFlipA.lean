import Derived.Test.Qxb6619265aInit
import Derived.Deep.RegionHeld
import Derived.WalkSpells
namespace Go.Proofs.Qxb6619265a
open Go.RowKit Go.Maps

theorem word_mod {n i : Nat} (hn : n < 2 ^ 64) : bits .xor .u64 (n : Int) (IntKind.u64.wrap (2 ^ (i % 64))) = ((Flip.flipWord n i : Nat) : Int) := by
  rw [word_go hn (Nat.mod_lt _ (by decide))]
  unfold Flip.flipWord
  rw [Nat.mod_mod]

theorem Tab.drew {w : World} {B tb L gw gp bw bp cw cp : Nat} {s : Flip.St} {Dw Dp : DataW Unit} (T : Tab w B tb L s gw gp bw bp cw cp Dw Dp) : Tab w.drew B tb L s gw gp bw bp cw cp Dw Dp :=
  T.kept (Only.refl (fun _ => False) w).drew (by simp) (by simp) (by simp) (by simp) (by simp)

theorem desc_step {w wr : World} {L l k n i nd : Nat} {s : Flip.St} {pc : Array Value} (hlk : l + 1 + k = L) (hL2 : L ≤ 24) (hon : Only (fun _ => False) w wr) (hpb : wr.heap[w.heap.size]? = some (.cells pc 48 (0, 0))) (hps : pc.size = 64)
    (hpath : ∀ j, l + 1 < j → j ≤ L → pc[j]? = some (.int .i32 (Flip.nodeAt i s j (L - j) n))) (hN : Flip.nodeAt i s (l + 1) k n = nd) :
    Only (fun _ => False) w (wr.setCell ⟨w.heap.size, l + 1, none⟩ (.int .i32 nd)).drew ∧
      ∃ pc : Array Value, (wr.setCell ⟨w.heap.size, l + 1, none⟩ (.int .i32 nd)).drew.heap[w.heap.size]? = some (.cells pc 48 (0, 0)) ∧ pc.size = 64 ∧ (∀ j, l < j → j ≤ L → pc[j]? = some (.int .i32 (Flip.nodeAt i s j (L - j) n))) := by
  refine ⟨(hon.setCell (by simp) _).drew, _, blk_setCell hpb _, by simpa using hps, fun j h1 h2 => ?_⟩
  by_cases hj : j = l + 1
  · subst hj
    rw [Array.getElem?_setIfInBounds_self_of_lt (by rw [hps]; omega), show L - (l + 1) = k from by omega, hN]
  · rw [Array.getElem?_setIfInBounds_ne (by omega)]
    exact hpath j (by omega) h2

/-- WHERE THE WAY UP STANDS, l levels interned. -/
def Up (w : World) (B tb L n i : Nat) (s : Flip.St) (gw gp bw bp l : Nat) (wr : World) : Prop :=
  ∃ gw' gp' cw' cp' Dw' Dp', Tab wr B tb L (Flip.flipAt i l s (Flip.nodeAt i s l (L - l) n)).1 gw' gp' bw bp cw' cp' Dw' Dp' ∧ (gw' = gw ∨ w.heap.size ≤ gw') ∧ (gp' = gp ∨ w.heap.size ≤ gp') ∧
    Only (fun k => k = tb ∨ k = gw ∨ k = gp ∨ k = bw ∨ k = bp) w wr ∧
    ∃ pc : Array Value, wr.heap[w.heap.size]? = some (.cells pc 48 (0, 0)) ∧ pc.size = 64 ∧ ∀ j, 0 < j → j ≤ L → pc[j]? = some (.int .i32 (Flip.nodeAt i s j (L - j) n))

theorem up_start {w wr w2 : World} {B tb L n i gw gp bw bp cw cp gw2 cw2 nd x0 X : Nat} {s : Flip.St} {Dw Dp Dw2 : DataW Unit} {pc : Array Value} (T : Tab w B tb L s gw gp bw bp cw cp Dw Dp)
    (T2 : Tab w2 B tb L (Flip.putWord s X).1 gw2 gp bw bp cw2 cp Dw2 Dp) (hgw2 : gw2 = gw ∨ wr.drew.drew.heap.size ≤ gw2) (hon : Only (fun _ => False) w wr) (ho2 : Only (fun k => k = tb ∨ k = bw ∨ k = gw) wr.drew.drew w2)
    (hpb : wr.heap[w.heap.size]? = some (.cells pc 48 (0, 0))) (hps : pc.size = 64) (hpath : ∀ j, 0 < j → j ≤ L → pc[j]? = some (.int .i32 (Flip.nodeAt i s j (L - j) n)))
    (HN : Hid (Flip.nodeAt i s 0 L n = nd)) (HX : Hid (s.ws.getD nd 0 = x0)) (HX2 : Hid (Flip.flipWord x0 i = X)) : Up w B tb L n i s gw gp bw bp 0 w2 := by
  have hs := hon.size
  have hl := T.lt
  refine ⟨gw2, gp, cw2, cp, Dw2, Dp, ?_, ?_, Or.inl rfl, ?_, pc, ?_, hps, hpath⟩
  · simp only [Nat.sub_zero]
    rw [HN.out]
    simp only [Flip.flipAt]
    rw [HX.out, HX2.out]
    exact T2
  · rcases hgw2 with h | h
    · exact Or.inl h
    · exact Or.inr (Nat.le_trans hs h)
  · exact (hon.mono (fun _ _ h => h.elim)).drew.drew.trans (ho2.mono (fun k _ h => by omega))
  · rw [ho2.block w.heap.size (lt_of_block hpb) (by omega)]
    exact hpb

theorem flip_sizes {s : Flip.St} {L n i l : Nat} (hI : Flip.Inv s) (hv : Flip.Valid s L n) (hl : l ≤ L) :
    (Flip.flipAt i l s (Flip.nodeAt i s l (L - l) n)).1.ws.length ≤ s.ws.length + 1 ∧ (Flip.flipAt i l s (Flip.nodeAt i s l (L - l) n)).1.ps.length ≤ s.ps.length + l ∧
      s.ps.length ≤ (Flip.flipAt i l s (Flip.nodeAt i s l (L - l) n)).1.ps.length ∧ (Flip.flipAt i l s (Flip.nodeAt i s l (L - l) n)).2 ≤ s.ws.length + s.ps.length + l := by
  obtain ⟨a, b, c, d, e, f⟩ := Flip.flipAt_spec i l hI (Flip.nodeAt_valid (i := i) hv (L - l) l (by omega))
  refine ⟨e, f, b.2.length_le, ?_⟩
  cases l with
  | zero => simp only [Flip.Valid] at c; omega
  | succ l => simp only [Flip.Valid] at c; omega

theorem key_go {a b : Nat} (ha : a < 2147483648) (hb : b < 2147483648) : bits .or .u64 (IntKind.u64.wrap (IntKind.u64.wrap (a : Int) * 4294967296)) (IntKind.u64.wrap (b : Int)) = ((pkey (a, b) : Nat) : Int) := by
  have e1 : IntKind.u64.wrap (IntKind.u64.wrap (a : Int) * 4294967296) = ((a * 4294967296 : Nat) : Int) := by rw [IntKind.wrap_u64, IntKind.wrap_u64]; omega
  have e2 : IntKind.u64.wrap (b : Int) = (b : Int) := by rw [IntKind.wrap_u64]; omega
  rw [e1, e2, u64_or_nat _ _ (by omega) (by omega), nat_join 32 (a * 4294967296) b (by omega) (by omega)]
  rfl

theorem child_lt {w : World} {B tb L gw gp bw bp cw cp j b : Nat} {s : Flip.St} {Dw Dp : DataW Unit} (T : Tab w B tb L s gw gp bw bp cw cp Dw Dp) (hj : j < s.ps.length) : Flip.child (s.ps.getD j (0, 0)) b < 2147483648 := by
  have hm : s.ps.getD j (0, 0) ∈ s.ps := by simp only [List.getD, List.getElem?_eq_getElem hj, Option.getD_some]; exact List.getElem_mem hj
  have := T.pb _ hm
  unfold Flip.child; split
  · exact this.1
  · exact this.2

/-- The flip one level higher. -/
theorem flip_succ {s : Flip.St} {L n i l nd : Nat} {r : Flip.St × Nat} {pr : Nat × Nat} (hI : Flip.Inv s) (hv : Flip.Valid s L n) (hl : l < L) (hN : Flip.nodeAt i s (l + 1) (L - (l + 1)) n = nd) (hR : Flip.flipAt i l s (Flip.nodeAt i s l (L - l) n) = r)
    (hpr : r.1.ps.getD nd (0, 0) = pr) : Flip.flipAt i (l + 1) s (Flip.nodeAt i s (l + 1) (L - (l + 1)) n) = Flip.putPair r.1 (Flip.setChild pr (Flip.bit i l) r.2) := by
  have hvn := Flip.nodeAt_valid (i := i) hv (L - (l + 1)) (l + 1) (by omega)
  have hC : Flip.nodeAt i s l (L - l) n = Flip.child (s.ps.getD nd (0, 0)) (Flip.bit i l) := by
    rw [show L - l = (L - (l + 1)) + 1 from by omega, ← hN]; rfl
  have hx := (Flip.flipAt_spec i l hI (Flip.nodeAt_valid (i := i) hv (L - l) l (by omega))).2.1
  rw [hN] at hvn ⊢
  have hp : s.ps.getD nd (0, 0) = pr := by rw [← hpr, ← hR, Flip.getD_pre hx.2 hvn.1]
  simp only [Flip.flipAt]
  rw [← hC, hR, hp]

theorem up_step {w wr w3 : World} {B tb L n i l nd gw gp bw bp gw2 gp2 cw2 gp3 cp3 cp2 : Nat} {s : Flip.St} {Dw2 Dp2 Dp3 : DataW Unit} {o : Obj} {r : Flip.St × Nat} {pr p : Nat × Nat} {pc : Array Value} (hI : Flip.Inv s) (hv : Flip.Valid s L n) (hl : l < L)
    (HN : Hid (Flip.nodeAt i s (l + 1) (L - (l + 1)) n = nd)) (HR : Hid (Flip.flipAt i l s (Flip.nodeAt i s l (L - l) n) = r)) (HPR : Hid (r.1.ps.getD nd (0, 0) = pr)) (hp : p = Flip.setChild pr (Flip.bit i l) r.2)
    (T2 : Tab wr B tb L r.1 gw2 gp2 bw bp cw2 cp2 Dw2 Dp2)
    (hgw2 : gw2 = gw ∨ w.heap.size ≤ gw2) (hgp2 : gp2 = gp ∨ w.heap.size ≤ gp2) (ho2 : Only (fun k => k = tb ∨ k = gw ∨ k = gp ∨ k = bw ∨ k = bp) w wr) (hpb : wr.heap[w.heap.size]? = some (.cells pc 48 (0, 0))) (hps : pc.size = 64)
    (hpath : ∀ j, 0 < j → j ≤ L → pc[j]? = some (.int .i32 (Flip.nodeAt i s j (L - j) n)))
    (T3 : Tab w3 B tb L (Flip.putPair r.1 p).1 gw2 gp3 bw bp cw2 cp3 Dw2 Dp3) (hgp3 : gp3 = gp2 ∨ (wr.alloc o).drew.drew.heap.size ≤ gp3) (ho3 : Only (fun k => k = tb ∨ k = bp ∨ k = gp2) (wr.alloc o).drew.drew w3) :
    (Flip.putPair r.1 p).2 = (Flip.flipAt i (l + 1) s (Flip.nodeAt i s (l + 1) (L - (l + 1)) n)).2 ∧ Up w B tb L n i s gw gp bw bp (l + 1) w3 := by
  have hE := flip_succ hI hv hl HN.out HR.out HPR.out
  have hsz : (wr.alloc o).drew.drew.heap.size = wr.heap.size + 1 := by simp
  have hs := ho2.size
  have hlw := lt_of_block hpb
  obtain ⟨cur, hcur, _⟩ := row_block T2.rp
  have hne : w.heap.size ≠ gp2 := by
    intro e
    rw [← e, hpb] at hcur
    simp at hcur
  have hl2 := T2.lt
  have hbp : w.heap.size ≠ bp := by
    intro e
    obtain ⟨es, c, h⟩ := map_block T2.mp
    rw [← e, hpb] at h
    simp at h
  have htb : w.heap.size ≠ tb := by
    intro e
    have := T2.blk
    rw [← e, hpb] at this
    simp at this
  rw [hE, hp]
  refine ⟨rfl, gw2, gp3, cw2, cp3, Dw2, Dp3, by rw [hE, ← hp]; exact T3, hgw2, by omega, ?_, pc, ?_, hps, hpath⟩
  · have h1 : Only (fun k => k = tb ∨ k = gw ∨ k = gp ∨ k = bw ∨ k = bp) w (wr.alloc o).drew.drew := (ho2.alloc o).drew.drew
    refine ⟨ho3.os.trans h1.os, ho3.tape.trans h1.tape, ho3.output.trans h1.output, Nat.le_trans h1.size ho3.size, fun k hk hS => ?_⟩
    exact (ho3.block k (by omega) (by omega)).trans (h1.block k hk hS)
  · rw [ho3.block _ (by omega) (by omega)]
    exact (Below.heap_alloc _ _ _ hlw).trans hpb

theorem Tab.alloc {w : World} {B tb L gw gp bw bp cw cp : Nat} {s : Flip.St} {Dw Dp : DataW Unit} (T : Tab w B tb L s gw gp bw bp cw cp Dw Dp) (o : Obj) : Tab (w.alloc o) B tb L s gw gp bw bp cw cp Dw Dp :=
  T.kept ((Only.refl (fun _ => False) w).alloc o) (by simp) (by simp) (by simp) (by simp) (by simp)

theorem pair_kept {w w3 : World} {B tb L gw gp bw bp cw cp : Nat} {s : Flip.St} {Dw Dp : DataW Unit} {u v : Value} (T : Tab w B tb L s gw gp bw bp cw cp Dw Dp)
    (ho : Only (fun k => k = tb ∨ k = bp ∨ k = gp) (w.alloc (.cells #[u, v] 47)).drew.drew w3) : w3.cell? ⟨w.heap.size, 0, none⟩ = some u ∧ w3.cell? ⟨w.heap.size, 1, none⟩ = some v := by
  obtain ⟨l1, l2, l3, l4, l5⟩ := T.lt
  have h : w3.heap[w.heap.size]? = some (.cells #[u, v] 47 (0, 0)) := (ho.block w.heap.size (by simp) (by omega)).trans (heap_alloc_new w _)
  exact ⟨blk_cell h rfl, blk_cell h rfl⟩

/-- THE TABLES, made or not; 'own': every block that they lie in is owned. -/
def Tabs (w : World) (B tb L : Nat) (s : Flip.St) (own : Nat → Prop) : Prop :=
  (s = Flip.empty ∧ w.heap[tb]? = some (.cells #[.int .i64 L, .slice none 0 0, .slice none 0 0, .map none, .map none] 42 (0, 0)) ∧ own tb) ∨
  ∃ gw gp bw bp cw cp Dw Dp, Tab w B tb L s gw gp bw bp cw cp Dw Dp ∧ own tb ∧ own gw ∧ own gp ∧ own bw ∧ own bp

/-- What an owner of blocks owns behind a call that began in w. -/
def Later (own : Nat → Prop) (w : World) (k : Nat) : Prop := own k ∨ w.heap.size ≤ k

theorem Tabs.cell0 {w : World} {B tb L : Nat} {s : Flip.St} {own : Nat → Prop} (h : Tabs w B tb L s own) : w.cell? ⟨tb, 0, none⟩ = some (.int .i64 L) := by
  rcases h with ⟨_, h, _⟩ | ⟨gw, gp, bw, bp, cw, cp, Dw, Dp, T, _⟩
  · exact blk_cell (o := 0) h rfl
  · exact blk_cell (o := 0) T.blk rfl
theorem Tabs.cell3 {w : World} {B tb L : Nat} {s : Flip.St} {own : Nat → Prop} (h : Tabs w B tb L s own) : ∃ r, w.cell? ⟨tb, 3, none⟩ = some (.map r) := by
  rcases h with ⟨_, h, _⟩ | ⟨gw, gp, bw, bp, cw, cp, Dw, Dp, T, _⟩
  · exact ⟨_, blk_cell (o := 3) h rfl⟩
  · exact ⟨_, blk_cell (o := 3) T.blk rfl⟩
theorem Tabs.lt {w : World} {B tb L : Nat} {s : Flip.St} {own : Nat → Prop} (h : Tabs w B tb L s own) : tb < w.heap.size := by
  rcases h with ⟨_, h, _⟩ | ⟨gw, gp, bw, bp, cw, cp, Dw, Dp, T, _⟩
  · exact lt_of_block h
  · exact T.lt.1
theorem Tabs.owns {w : World} {B tb L : Nat} {s : Flip.St} {own : Nat → Prop} (h : Tabs w B tb L s own) : own tb := by
  rcases h with ⟨_, _, h⟩ | ⟨gw, gp, bw, bp, cw, cp, Dw, Dp, T, h, _⟩ <;> exact h

theorem flip_end {w wc w' : World} {B tb L : Nat} {s : Flip.St} {own : Nat → Prop} {gw gp bw bp gw2 gp2 cw2 cp2 : Nat} {Dw2 Dp2 : DataW Unit} (h0 : own tb) (o1 : Later own w gw) (o2 : Later own w gp) (o3 : Later own w bw) (o4 : Later own w bp)
    (ho : Only own w wc) (T2 : Tab w' B tb L s gw2 gp2 bw bp cw2 cp2 Dw2 Dp2) (hgw : gw2 = gw ∨ wc.heap.size ≤ gw2) (hgp : gp2 = gp ∨ wc.heap.size ≤ gp2) (ho2 : Only (fun k => k = tb ∨ k = gw ∨ k = gp ∨ k = bw ∨ k = bp) wc w') :
    Tabs w' B tb L s (Later own w) ∧ Only own w w' := by
  have hs := ho.size
  refine ⟨Or.inr ⟨gw2, gp2, bw, bp, cw2, cp2, Dw2, Dp2, T2, Or.inl h0, ?_, ?_, o3, o4⟩, ?_⟩
  · rcases hgw with rfl | h
    · exact o1
    · exact Or.inr (by omega)
  · rcases hgp with rfl | h
    · exact o2
    · exact Or.inr (by omega)
  · have key : ∀ k, k < w.heap.size → Later own w k → own k := fun k hk h => by
      rcases h with h | h
      · exact h
      · omega
    refine ⟨ho2.os.trans ho.os, ho2.tape.trans ho.tape, ho2.output.trans ho.output, Nat.le_trans hs ho2.size, fun k hk hn => ?_⟩
    refine (ho2.block k (by omega) ?_).trans (ho.block k hk hn)
    rintro (rfl | rfl | rfl | rfl | rfl)
    · exact hn h0
    · exact hn (key _ hk o1)
    · exact hn (key _ hk o2)
    · exact hn (key _ hk o3)
    · exact hn (key _ hk o4)

end Go.Proofs.Qxb6619265a

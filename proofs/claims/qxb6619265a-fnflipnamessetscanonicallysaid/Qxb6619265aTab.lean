import Derived.Test.Qxb6619265aInternB
import Derived.Laws.BitsAllLaws
namespace Go.Proofs.Qxb6619265a
open Go.RowKit Go.Maps

theorem shl_one {i : Nat} (hi : i < 64) : IntKind.u64.wrap (2 ^ i) = ((2 ^ i : Nat) : Int) := by
  have h : (2 ^ i : Nat) < 2 ^ 64 := Nat.pow_lt_pow_right (by decide) hi
  rw [IntKind.wrap_u64]
  have e : ((2 : Int) ^ i) = ((2 ^ i : Nat) : Int) := by simp
  rw [e]
  generalize 2 ^ i = p at *
  omega

theorem word_go {n i : Nat} (hn : n < 2 ^ 64) (hi : i < 64) : bits .xor .u64 (n : Int) (IntKind.u64.wrap (2 ^ i)) = ((Flip.flipWord n i : Nat) : Int) := by
  have h : (2 ^ i : Nat) < 2 ^ 64 := Nat.pow_lt_pow_right (by decide) hi
  rw [shl_one hi, u64_xor_nat n (2 ^ i) (by omega) (by omega)]
  unfold Flip.flipWord
  rw [Nat.mod_eq_of_lt hi]

theorem i64_and1 (a : Nat) (ha : a < 9223372036854775808) : bits .and .i64 (a : Int) 1 = ((a % 2 : Nat) : Int) := by
  show IntKind.i64.wrap ((BitVec.ofInt 64 (a : Int) &&& BitVec.ofInt 64 ((1 : Nat) : Int)).toNat : Int) = _
  rw [BitVec.toNat_and, ofInt_u64 a (by omega), ofInt_u64 1 (by omega), nat_mask1]
  rw [IntKind.wrap_i64]
  omega

theorem bit_go {i l : Nat} (hi : i < 2147483648) : bits .and .i64 ((i : Int) / 64 / 2 ^ l) 1 = ((Flip.bit i l : Nat) : Int) := by
  have e : ((i : Int) / 64 / 2 ^ l) = ((i / 64 / 2 ^ l : Nat) : Int) := by simp
  have h : i / 64 / 2 ^ l ≤ i := Nat.le_trans (Nat.div_le_self _ _) (Nat.div_le_self _ _)
  rw [e, i64_and1 _ (by omega)]
  rfl

theorem flip_zero (tb n i : Nat) (w : World) (hn : n < 2 ^ 64) (hi : i < 64) (h0 : w.cell? ⟨tb, 0, none⟩ = some (.int .i64 0)) :
    Calls Try.prog 13 #[.pointer (some ⟨tb, 0, none⟩), .int .u64 n, .int .i64 i] w fun e w' => e = .returned (.int .u64 (Flip.flipWord n i)) ∧ w' = w := by
  go_enter Try.func13, Try.ntmps13
  go_wp2
  go_ret
  exact ⟨ret_int (word_go hn hi), rfl⟩

def pkey (p : Nat × Nat) : Nat := p.1 * 4294967296 + p.2

/-- THE TABLES AS THEY LIE IN MEMORY, once they are made. -/
structure Tab (w : World) (B tb L : Nat) (s : Flip.St) (gw gp bw bp cw cp : Nat) (Dw Dp : DataW Unit) : Prop where
  blk : w.heap[tb]? = some (.cells #[.int .i64 L, .slice (some ⟨gw, 0, none⟩) s.ws.length cw, .slice (some ⟨gp, 0, none⟩) s.ps.length cp, .map (some bw), .map (some bp)] 42 (0, 0))
  rw : w.ownsRow B 34 1 (.slice (some ⟨gw, 0, none⟩) s.ws.length cw) s.ws.length (wcells s.ws)
  rp : w.ownsRow B 47 2 (.slice (some ⟨gp, 0, none⟩) s.ps.length cp) s.ps.length (pcells s.ps)
  mw : w.ownsMap Try.prog 34 (plainElem Try.prog 21) bw s.ws.length Dw
  mp : w.ownsMap Try.prog 34 (plainElem Try.prog 21) bp s.ps.length Dp
  iw : IsIndex Dw s.ws
  ip : IsIndex Dp (s.ps.map pkey)
  bne : bw ≠ bp
  pb : ∀ p ∈ s.ps, p.1 < 2147483648 ∧ p.2 < 2147483648

theorem row_block {w : World} {B e sz g n cap : Nat} {xs : List Value} (h : w.ownsRow B e sz (.slice (some ⟨g, 0, none⟩) n cap) n xs) : ∃ cur, w.heap[g]? = some (.cells cur e (0, 0)) ∧ B ≤ g := by
  rcases h.2 with ⟨h, _⟩ | ⟨g', cap', cur, h, hb, hg, _⟩
  · simp at h
  · simp at h; obtain ⟨rfl, rfl⟩ := h; exact ⟨cur, hg, hb⟩
theorem row_kept {w w' : World} {B e sz g n cap : Nat} {xs : List Value} (h : w.ownsRow B e sz (.slice (some ⟨g, 0, none⟩) n cap) n xs) (hk : w'.heap[g]? = w.heap[g]?) : w'.ownsRow B e sz (.slice (some ⟨g, 0, none⟩) n cap) n xs := by
  obtain ⟨h1, h2⟩ := h
  refine ⟨h1, ?_⟩
  rcases h2 with h2 | ⟨g', cap', cur, h, hb, hg, r⟩
  · exact Or.inl h2
  · simp only [Value.slice.injEq, Option.some.injEq, Addr.mk.injEq, and_true, true_and] at h
    obtain ⟨rfl, rfl⟩ := h
    exact Or.inr ⟨g, cap, cur, rfl, hb, hk.trans hg, r⟩
theorem pcells_at : ∀ (ps : List (Nat × Nat)) {j b : Nat}, j < ps.length → b = 0 ∨ b = 1 → (pcells ps)[j * 2 + b]? = some (.int .i32 ((Flip.child (ps.getD j (0, 0)) b : Nat)))
  | [], j, b, h, _ => by simp at h
  | p :: ps, 0, b, _, hb => by rcases hb with rfl | rfl <;> simp [pcells, Flip.child]
  | p :: ps, j + 1, b, h, hb => by
    have e : (j + 1) * 2 + b = (j * 2 + b) + 2 := by omega
    have e2 : pcells (p :: ps) = .int .i32 (p.1 : Nat) :: .int .i32 (p.2 : Nat) :: pcells ps := by simp [pcells]
    rw [e, e2]
    simp only [List.getElem?_cons_succ, List.getD_cons_succ]
    exact pcells_at ps (by simpa using h) hb
theorem map_block {w : World} {b n : Nat} {P : Program} {k : TypeId} {R : Value → Option (DataW Unit × List MemPlace)} {D : DataW Unit} (h : w.ownsMap P k R b n D) : ∃ es c, w.heap[b]? = some (.map es c) := by
  obtain ⟨es, c, h, _⟩ := h; exact ⟨es, c, h⟩

section
variable {w w' : World} {B tb L gw gp bw bp cw cp : Nat} {s : Flip.St} {Dw Dp : DataW Unit}
theorem Tab.ne (T : Tab w B tb L s gw gp bw bp cw cp Dw Dp) : tb ≠ gw ∧ tb ≠ gp ∧ tb ≠ bw ∧ tb ≠ bp ∧ bw ≠ gw ∧ bw ≠ gp ∧ bp ≠ gw ∧ bp ≠ gp ∧ gw ≠ gp := by
  have h := T.blk
  obtain ⟨c1, h1, _⟩ := row_block T.rw
  obtain ⟨c2, h2, _⟩ := row_block T.rp
  obtain ⟨e3, n3, h3⟩ := map_block T.mw
  obtain ⟨e4, n4, h4⟩ := map_block T.mp
  refine ⟨?_, ?_, ?_, ?_, ?_, ?_, ?_, ?_, ?_⟩ <;> (intro e; subst e; simp_all)
theorem Tab.lt (T : Tab w B tb L s gw gp bw bp cw cp Dw Dp) : tb < w.heap.size ∧ gw < w.heap.size ∧ gp < w.heap.size ∧ bw < w.heap.size ∧ bp < w.heap.size := by
  obtain ⟨c1, h1, _⟩ := row_block T.rw
  obtain ⟨c2, h2, _⟩ := row_block T.rp
  exact ⟨lt_of_block T.blk, lt_of_block h1, lt_of_block h2, T.mw.lt, T.mp.lt⟩
theorem Tab.base (T : Tab w B tb L s gw gp bw bp cw cp Dw Dp) : B ≤ gw ∧ B ≤ gp := by
  obtain ⟨c1, h1, a⟩ := row_block T.rw
  obtain ⟨c2, h2, b⟩ := row_block T.rp
  exact ⟨a, b⟩
/-- The tables stay while other blocks are written. -/
theorem Tab.kept {S : Nat → Prop} (T : Tab w B tb L s gw gp bw bp cw cp Dw Dp) (h : Only S w w') (h1 : ¬ S tb) (h2 : ¬ S gw) (h3 : ¬ S gp) (h4 : ¬ S bw) (h5 : ¬ S bp) : Tab w' B tb L s gw gp bw bp cw cp Dw Dp := by
  obtain ⟨l1, l2, l3, l4, l5⟩ := T.lt
  refine ⟨(h.block tb l1 h1).trans T.blk, ?_, ?_, ?_, ?_, T.iw, T.ip, T.bne, T.pb⟩
  · exact row_kept T.rw (h.block gw l2 h2)
  · exact row_kept T.rp (h.block gp l3 h3)
  · obtain ⟨es, c, hb, r⟩ := T.mw
    exact ⟨es, c, (h.block bw l4 h4).trans hb, r⟩
  · obtain ⟨es, c, hb, r⟩ := T.mp
    exact ⟨es, c, (h.block bp l5 h5).trans hb, r⟩

theorem Tab.wcell (T : Tab w B tb L s gw gp bw bp cw cp Dw Dp) {j : Nat} (hj : j < s.ws.length) : w.cell? ⟨gw, j, none⟩ = some (.int .u64 ((s.ws.getD j 0 : Nat))) := by
  rw [T.rw.cellAt j (by omega)]
  simp [wcells, List.getD, hj]
theorem Tab.pcell (T : Tab w B tb L s gw gp bw bp cw cp Dw Dp) {j b : Nat} (hj : j < s.ps.length) (hb : b = 0 ∨ b = 1) : w.cell? ⟨gp, j * 2 + b, none⟩ = some (.int .i32 ((Flip.child (s.ps.getD j (0, 0)) b : Nat))) := by
  rw [T.rp.cellAt (j * 2 + b) (by omega), pcells_at _ hj hb]
end

theorem pkey_inj {p q : Nat × Nat} (hp : p.2 < 2147483648) (hq : q.2 < 2147483648) (h : pkey p = pkey q) : p = q := by
  unfold pkey at h
  have h1 : p.1 = q.1 := by omega
  have h2 : p.2 = q.2 := by omega
  exact Prod.ext h1 h2

/-- INTERNING A WORD, told by the tables. -/
theorem intern14_tab {w : World} {B tb L gw gp bw bp cw cp : Nat} {s : Flip.St} {Dw Dp : DataW Unit} (T : Tab w B tb L s gw gp bw bp cw cp Dw Dp) (hB : B ≤ w.heap.size) (x : Nat) (hx : x < 2 ^ 64) (hl : s.ws.length ≤ 1000000) :
    Calls Try.prog 14 #[.pointer (some ⟨tb, 1, none⟩), .map (some bw), .int .u64 x, .int .u64 x] w fun e w' => e = .returned (.int .i32 (Flip.putWord s x).2) ∧
      ∃ gw' cw' Dw', Tab w' B tb L (Flip.putWord s x).1 gw' gp bw bp cw' cp Dw' Dp ∧ (gw' = gw ∨ w.heap.size ≤ gw') ∧ Only (fun k => k = tb ∨ k = bw ∨ k = gw) w w' := by
  obtain ⟨n1, n2, n3, n4, n5, n6, n7, n8, n9⟩ := T.ne
  obtain ⟨l1, l2, l3, l4, l5⟩ := T.lt
  unfold Flip.putWord
  rcases Flip.idxOf?_spec s.ws x with ⟨k, e, hk, hv⟩ | ⟨e, hn⟩
  · rw [e]
    obtain ⟨h1, h2⟩ := T.iw.hit k x hv
    refine (intern14_hit tb 1 bw s.ws.length x k Dw w hx T.mw h1 h2).mono ?_
    rintro e w' ⟨rfl, rfl⟩
    exact ⟨rfl, gw, cw, Dw, T, Or.inl rfl, Only.refl _ _⟩
  · rw [e]
    refine (intern14_miss B tb 1 bw s.ws.length gw cw x s.ws _ 42 Dw w hx hl hl hB T.blk rfl T.rw T.mw (T.iw.miss x hn) n1 n3 n5).mono ?_
    rintro e w' ⟨rfl, g', cap', r1, r2, r3, r4, r5⟩
    refine ⟨rfl, g', cap', Dw.put (.int .u64 x) (.lit (.int .i32 s.ws.length)), ⟨?_, ?_, ?_, ?_, ?_, ?_, T.ip, T.bne, T.pb⟩, r4, r5⟩
    · simpa using r1
    · simpa using r2
    · exact row_kept T.rp (r5.block gp l3 (by omega))
    · simpa using r3
    · obtain ⟨es, c, hb, r⟩ := T.mp
      exact ⟨es, c, (r5.block bp l5 (by have := T.bne; omega)).trans hb, r⟩
    · exact T.iw.snoc T.mw.isMap hn

/-- INTERNING A PAIR. -/
theorem intern15_tab {w : World} {B tb L gw gp bw bp cw cp : Nat} {s : Flip.St} {Dw Dp : DataW Unit} (T : Tab w B tb L s gw gp bw bp cw cp Dw Dp) (hB : B ≤ w.heap.size) (p : Nat × Nat) (hp : p.1 < 2147483648 ∧ p.2 < 2147483648) (hl : s.ps.length ≤ 1000000) :
    Calls Try.prog 15 #[.pointer (some ⟨tb, 2, none⟩), .map (some bp), .int .u64 (pkey p), .agg #[.int .i32 p.1, .int .i32 p.2]] w fun e w' => e = .returned (.int .i32 (Flip.putPair s p).2) ∧
      ∃ gp' cp' Dp', Tab w' B tb L (Flip.putPair s p).1 gw gp' bw bp cw cp' Dw Dp' ∧ (gp' = gp ∨ w.heap.size ≤ gp') ∧ Only (fun k => k = tb ∨ k = bp ∨ k = gp) w w' := by
  obtain ⟨n1, n2, n3, n4, n5, n6, n7, n8, n9⟩ := T.ne
  obtain ⟨l1, l2, l3, l4, l5⟩ := T.lt
  have hx : pkey p < 2 ^ 64 := by unfold pkey; omega
  unfold Flip.putPair
  rcases Flip.idxOf?_spec s.ps p with ⟨k, e, hk, hv⟩ | ⟨e, hn⟩
  · rw [e]
    obtain ⟨h1, h2⟩ := T.ip.hit k (pkey p) (by rw [List.getElem?_map, hv]; rfl)
    refine (intern15_hit tb 2 bp s.ps.length (pkey p) k p Dp w hx T.mp h1 h2).mono ?_
    rintro e w' ⟨rfl, ho⟩
    exact ⟨rfl, gp, cp, Dp, T.kept ho (by simp) (by simp) (by simp) (by simp) (by simp), Or.inl rfl, ho.mono (fun _ _ h => h.elim)⟩
  · rw [e]
    have hn' : pkey p ∉ s.ps.map pkey := by
      intro h
      obtain ⟨q, hq, hk⟩ := List.mem_map.1 h
      have := pkey_inj (T.pb q hq).2 hp.2 hk
      subst this; exact hn hq
    refine (intern15_miss B tb 2 bp s.ps.length gp cp (pkey p) p s.ps _ 42 Dp w hx hl hl hB T.blk rfl T.rp T.mp (T.ip.miss _ hn') n2 n4 n8).mono ?_
    rintro e w' ⟨rfl, g', cap', r1, r2, r3, r4, r5⟩
    refine ⟨rfl, g', cap', Dp.put (.int .u64 (pkey p)) (.lit (.int .i32 s.ps.length)), ⟨?_, ?_, ?_, ?_, ?_, T.iw, ?_, T.bne, ?_⟩, r4, r5⟩
    · simpa using r1
    · exact row_kept T.rw (r5.block gw l2 (by omega))
    · simpa using r2
    · obtain ⟨es, c, hb, r⟩ := T.mw
      exact ⟨es, c, (r5.block bw l4 (by have := T.bne; omega)).trans hb, r⟩
    · simpa using r3
    · have := T.ip.snoc T.mp.isMap hn'
      simpa using this
    · intro q hq
      simp at hq
      rcases hq with hq | rfl
      · exact T.pb q hq
      · exact hp
end Go.Proofs.Qxb6619265a

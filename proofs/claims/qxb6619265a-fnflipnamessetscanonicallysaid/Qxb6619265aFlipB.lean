import Derived.Test.Qxb6619265aFlipA
import Derived.WalkSpells
import Derived.Deep.DeepCutAuto
namespace Go.Proofs.Qxb6619265a
open Go.RowKit Go.Maps

set_option maxRecDepth 100000 in
set_option maxHeartbeats 4000000 in
theorem flip_tree (B tb L n i : Nat) (s : Flip.St) (own : Nat → Prop) (w : World) (hS : Tabs w B tb L s own) (hBt : B ≤ tb)
    (hL : 1 ≤ L) (hL2 : L ≤ 24) (hi2 : i < 2147483648) (hv : Flip.Valid s L n) (hI : Flip.Inv s) (hw : s.ws.length ≤ 500000) (hp : s.ps.length ≤ 500000) :
    Calls Try.prog 13 #[.pointer (some ⟨tb, 0, none⟩), .int .u64 n, .int .i64 i] w fun e w' => e = .returned (.int .u64 (Flip.flipAt i L s n).2) ∧
      Tabs w' B tb L (Flip.flipAt i L s n).1 (Later own w) ∧ Only own w w' := by
  have q40 : ∀ (w : World) (r : Option Nat), (binOp .eql 40 (.map r) (.map none)).run Try.prog w = .ok (.bool r.isNone) w := fun w r => run_eql_map_nil w _ _ _ r Try.underlying40
  have c0 := hS.cell0
  obtain ⟨r3, c3⟩ := hS.cell3
  have htw := hS.lt
  have h0 := hS.owns
  have hn : n < s.ps.length := by obtain ⟨M, rfl⟩ : ∃ m, L = m + 1 := ⟨L - 1, by omega⟩; exact hv.1
  have hL0 : ((L : Int) == 0) = false := beq_eq_false_iff_ne.2 (by omega)
  go_enter Try.func13, Try.ntmps13
  go_upto_if 27 with (fail)
  go_cut [] (fun wc => ∃ gw gp bw bp cw cp Dw Dp, Tab wc B tb L s gw gp bw bp cw cp Dw Dp ∧ Later own w gw ∧ Later own w gp ∧ Later own w bw ∧ Later own w bp ∧ Only own w wc)
  case first =>
    rcases hS with ⟨hse, hblk, hown⟩ | ⟨gw, gp, bw, bp, cw, cp, Dw, Dp, T, a0, a1, a2, a3, a4⟩
    · have hr3 : r3 = none := by have h := blk_cell (o := 3) hblk rfl; rw [c3] at h; simpa using h
      subst hr3
      have hmm := @run_makeMap Try.prog
      have hkey := keyOf_int_mk Try.underlying34 (show (Lit.int .u64 0).wf = true by decide)
      obtain ⟨w1, hrun1, hm1, hg1⟩ := (made_next w (.cells #[.int .u64 0] 34)).update lawK Try.underlying40 (by decide) hkey (plainElem_int Try.underlying21 (show (Lit.int .i32 0).wf = true by decide))
      obtain ⟨f1, f2⟩ := first_facts hblk hg1
      have HM2 := made_next ((w1.setCell ⟨tb, 1, none⟩ (.slice (some ⟨w.heap.size, 0, none⟩) 1 1)).setCell ⟨tb, 3, none⟩ (.map (some (w.heap.size + 1)))) (.cells #[.int .i32 0, .int .i32 0] 47)
      simp only [World.size_setCell] at HM2
      obtain ⟨w3, hrun3, hm3, hg3⟩ := HM2.update lawK Try.underlying40 (by decide) hkey (plainElem_int Try.underlying21 (show (Lit.int .i32 0).wf = true by decide))
      obtain ⟨f3, f4⟩ := second_facts f1 hg3
      obtain ⟨e1, e2, e3, e4⟩ := struct_cells f1
      obtain ⟨z1, z2, z3, z4⟩ := struct_free f1
      obtain ⟨y1, y2, y3, y4⟩ := struct_cells f3
      obtain ⟨x1, x2, x3, x4⟩ := struct_free f3
      have HE : Hid (s = Flip.empty) := hse
      clear HM2 hse
      go_wp2
      go_meet
      case rel =>
        obtain ⟨t1, t2, t3⟩ := init_tab hBt hblk hg1 hm1 hg3 hm3 index_one index_one
        refine ⟨_, _, _, _, _, _, _, _, by rw [HE.out]; exact t1, Or.inr (Nat.le_refl _), Or.inr (by omega), Or.inr (by omega), Or.inr (by omega), t2.mono (fun k _ h => by rw [h]; exact hown)⟩
    · have hr3 : r3 = some bw := by have h := blk_cell (o := 3) T.blk rfl; rw [c3] at h; simpa using h
      subst hr3
      go_wp2
      go_meet
      case rel => exact ⟨gw, gp, bw, bp, cw, cp, Dw, Dp, T, Or.inl a1, Or.inl a2, Or.inl a3, Or.inl a4, Only.refl _ _⟩
  obtain ⟨gw, gp, bw, bp, cw, cp, Dw, Dp, T, o1, o2, o3, o4, hoc⟩ := hcut
  have hB : B ≤ wc.heap.size := Nat.le_trans (Nat.le_trans hBt (Nat.le_of_lt htw)) hoc.size
  clear c0 c3
  have c0 : wc.cell? ⟨tb, 0, none⟩ = some (.int .i64 L) := blk_cell (o := 0) T.blk rfl
  have htc := T.lt.1
  go_wp2
  go_loopw [9, 10] (fun node level wr => ∃ l k : Nat, l + k = L ∧ level = .int .i64 l ∧ node = .int .i32 (Flip.nodeAt i s l k n) ∧ Only (fun _ => False) wc wr ∧
      ∃ pc : Array Value, wr.heap[wc.heap.size]? = some (.cells pc 48 (0, 0)) ∧ pc.size = 64 ∧ (∀ j, l < j → j ≤ L → pc[j]? = some (.int .i32 (Flip.nodeAt i s j (L - j) n)))) (fun _ level _ => (intOf level).toNat)
  case atStart =>
    refine ⟨L, 0, rfl, rfl, rfl, (Only.refl _ _).alloc _, _, heap_alloc_new _ _, rfl, fun j h1 h2 => by omega⟩
  case round =>
    obtain ⟨l, k, hlk, rfl, rfl, hon, pc, hpb, hps, hpath⟩ := hrel
    have T1 := T.kept hon (by simp) (by simp) (by simp) (by simp) (by simp)
    have d0 : wr.cell? ⟨tb, 0, none⟩ = some (.int .i64 L) := blk_cell (o := 0) T1.blk rfl
    have d2 : wr.cell? ⟨tb, 2, none⟩ = some (.slice (some ⟨gp, 0, none⟩) s.ps.length cp) := blk_cell (o := 2) T1.blk rfl
    have hvl := Flip.nodeAt_valid (i := i) hv k l (by omega)
    by_cases hl : 0 < l
    · obtain ⟨l, rfl⟩ : ∃ m, l = m + 1 := ⟨l - 1, by omega⟩
      have hnd : Flip.nodeAt i s (l + 1) k n < s.ps.length := hvl.1
      have HC : Hid (Flip.nodeAt i s l (k + 1) n = Flip.child (s.ps.getD (Flip.nodeAt i s (l + 1) k n) (0, 0)) (Flip.bit i l)) := rfl
      have e0 := T1.pcell (j := Flip.nodeAt i s (l + 1) k n) (b := 0) hnd (Or.inl rfl)
      rw [Nat.add_zero] at e0
      have e1 := T1.pcell (j := Flip.nodeAt i s (l + 1) k n) (b := 1) hnd (Or.inr rfl)
      obtain ⟨pv, hpv⟩ : ∃ v, pc[l + 1]? = some v := ⟨_, Array.getElem?_eq_getElem (by omega)⟩
      have p1 := blk_cell hpb hpv
      have p2 := blk_free hpb (l + 1)
      have hlt := lt_of_block hpb
      have hne : tb ≠ wc.heap.size := by omega
      have hne2 : gp ≠ wc.heap.size := by have := T.lt; omega
      generalize hN : Flip.nodeAt i s (l + 1) k n = nd at *
      have HN : Hid (Flip.nodeAt i s (l + 1) k n = nd) := hN
      clear hN
      have hbit := bit_go (l := l) hi2
      rcases Flip.bit_two i l with hb | hb <;> rw [hb] at hbit HC
      all_goals
        go_wp2
        go_region
        go_wp2
        go_roundw
        case rel =>
          refine ⟨l, k + 1, by omega, by go_num, ?_, ?_⟩
          · rw [HC.out]; simp [List.getD, hnd]
          · exact desc_step hlk hL2 hon hpb hps hpath HN.out
        case measure => simp [intOf]
    · obtain rfl : l = 0 := by omega
      have hk : k = L := by omega
      subst hk
      have hnd : Flip.nodeAt i s 0 k n < s.ws.length := hvl
      have d1 : wr.cell? ⟨tb, 1, none⟩ = some (.slice (some ⟨gw, 0, none⟩) s.ws.length cw) := blk_cell (o := 1) T1.blk rfl
      have d3 : wr.cell? ⟨tb, 3, none⟩ = some (.map (some bw)) := blk_cell (o := 3) T1.blk rfl
      have e0 := T1.wcell hnd
      have hx0 : s.ws.getD (Flip.nodeAt i s 0 k n) 0 < 2 ^ 64 := Flip.getD_lt hI.wb (by decide) _
      generalize hN : Flip.nodeAt i s 0 k n = nd at *
      have HN : Hid (Flip.nodeAt i s 0 k n = nd) := hN
      clear hN
      generalize hX : s.ws.getD nd 0 = x0 at *
      have HX : Hid (s.ws.getD nd 0 = x0) := hX
      clear hX
      have hword := word_mod (i := i) hx0
      have hX2 : Flip.flipWord x0 i < 2 ^ 64 := Flip.flipWord_lt hx0 i
      generalize hX : Flip.flipWord x0 i = X at *
      have HX2 : Hid (Flip.flipWord x0 i = X) := hX
      clear hX
      have hB1 : B ≤ wr.heap.size := Nat.le_trans hB hon.size
      go_wp2
      go_region
      go_wp2
      go_region_with (go_at_call 14; refine (intern14_tab (T1.drew.drew) hB1 X hX2 (by omega)).mono ?_; rintro e w2 ⟨rfl, gw2, cw2, Dw2, T2, hgw2, ho2⟩)
      have hU : Up wc B tb k n i s gw gp bw bp 0 w2 := up_start T T2 hgw2 hon ho2 hpb hps hpath HN HX HX2
      have HP : Hid ((Flip.putWord s X).2 = (Flip.flipAt i 0 s (Flip.nodeAt i s 0 k n)).2) := by rw [HN.out]; simp only [Flip.flipAt]; rw [HX.out, HX2.out]; rfl
      clear ho2 T2 hgw2 hpb hps hpath hword hX2 hx0 e0 d0 d1 d2 d3 hon T1 hvl
      go_wp2
      go_loopw [9, 12] (fun node level wr => ∃ l : Nat, l ≤ k ∧ level = .int .i64 (l + 1 : Nat) ∧ node = .int .i32 (Flip.flipAt i l s (Flip.nodeAt i s l (k - l) n)).2 ∧ Up wc B tb k n i s gw gp bw bp l wr) (fun _ level _ => k + 1 - (intOf level).toNat)
      case atStart => exact ⟨0, Nat.zero_le _, rfl, by rw [HP.out]; rfl, hU⟩
      case round =>
        obtain ⟨l, hlk, rfl, rfl, hU⟩ := hrel
        obtain ⟨gw2, gp2, cw2, cp2, Dw2, Dp2, T2, hgw2, hgp2, ho2, pc2, hpb2, hps2, hpath2⟩ := hU
        have f0 : wr.cell? ⟨tb, 0, none⟩ = some (.int .i64 k) := blk_cell (o := 0) T2.blk rfl
        by_cases hlt : l < k
        · obtain ⟨hs1, hs2, hs3, hs4⟩ := flip_sizes hI hv (i := i) (l := l) (by omega)
          have hvn := Flip.nodeAt_valid (i := i) hv (k - (l + 1)) (l + 1) (by omega)
          have hvn1 : Flip.nodeAt i s (l + 1) (k - (l + 1)) n < s.ps.length := hvn.1
          have HC : Hid (Flip.nodeAt i s l (k - l) n = Flip.child (s.ps.getD (Flip.nodeAt i s (l + 1) (k - (l + 1)) n) (0, 0)) (Flip.bit i l)) := by
            rw [show k - l = (k - (l + 1)) + 1 from by omega]; rfl
          have hpl := hpath2 (l + 1) (by omega) (by omega)
          generalize hN : Flip.nodeAt i s (l + 1) (k - (l + 1)) n = nd2 at *
          generalize hR : Flip.flipAt i l s (Flip.nodeAt i s l (k - l) n) = r at *
          have HN2 : Hid (Flip.nodeAt i s (l + 1) (k - (l + 1)) n = nd2) := hN
          have HR : Hid (Flip.flipAt i l s (Flip.nodeAt i s l (k - l) n) = r) := hR
          clear hN hR
          have f2 : wr.cell? ⟨tb, 2, none⟩ = some (.slice (some ⟨gp2, 0, none⟩) r.1.ps.length cp2) := blk_cell (o := 2) T2.blk rfl
          have f4 : wr.cell? ⟨tb, 4, none⟩ = some (.map (some bp)) := blk_cell (o := 4) T2.blk rfl
          have hvn2 : nd2 < r.1.ps.length := Nat.lt_of_lt_of_le hvn1 hs3
          have g0 := T2.pcell (j := nd2) (b := 0) hvn2 (Or.inl rfl)
          have g1 := T2.pcell (j := nd2) (b := 1) hvn2 (Or.inr rfl)
          rw [Nat.add_zero] at g0
          have p1 := blk_cell hpb2 hpl
          have hlw := lt_of_block hpb2
          obtain ⟨m1, m2, m3, m4, m5⟩ := T2.lt
          have hr2 : r.2 < 2147483648 := by omega
          have hpr1 := child_lt (b := 0) T2 hvn2
          have hpr2 := child_lt (b := 1) T2 hvn2
          generalize hpr : r.1.ps.getD nd2 (0, 0) = pr at *
          have HPR : Hid (r.1.ps.getD nd2 (0, 0) = pr) := hpr
          clear hpr
          have hbit := bit_go (l := l) hi2
          clear c0 hL0 q40 hU HP HN HX HX2 hB1 hnd hl htw hn
          rcases Flip.bit_two i l with hb | hb <;> rw [hb] at hbit HC
          · go_wp2
            go_region
            go_wp2
            clear f2 g0 g1 p1 hbit
            go_region_held (fun w' => w'.cell? ⟨tb, 4, none⟩ = some (.map (some bp)) ∧ w'.cell? ⟨wr.heap.size, 0, none⟩ = some (.int .i32 r.2) ∧ w'.cell? ⟨wr.heap.size, 1, none⟩ = some (.int .i32 (Flip.child pr 1))) (go_keep)
              ((go_at_call 15; rw [key_go hr2 hpr2]; refine (intern15_tab (T2.alloc _).drew.drew (by simp; omega) (r.2, Flip.child pr 1) ⟨hr2, hpr2⟩ (by omega)).mono ?_; rintro e w3 ⟨rfl, gp3, cp3, Dp3, T3, hgp3, ho3⟩; have k4 : w3.cell? ⟨tb, 4, none⟩ = some (.map (some bp)) := blk_cell (o := 4) T3.blk rfl; obtain ⟨k0, k1⟩ := pair_kept T2 ho3))
            go_wp2
            go_roundw
            case rel =>
              obtain ⟨q1, q2⟩ := up_step hI hv hlt HN2 HR HPR (by rw [hb]; simp [Flip.setChild, Flip.child]) T2 hgw2 hgp2 ho2 hpb2 hps2 hpath2 T3 hgp3 ho3
              exact ⟨l + 1, hlt, by go_num, by rw [q1], q2⟩
            case measure => simp [intOf]; omega
          · go_wp2
            go_region
            go_wp2
            clear f2 g0 g1 p1 hbit
            go_region_held (fun w' => w'.cell? ⟨tb, 4, none⟩ = some (.map (some bp)) ∧ w'.cell? ⟨wr.heap.size, 0, none⟩ = some (.int .i32 (Flip.child pr 0)) ∧ w'.cell? ⟨wr.heap.size, 1, none⟩ = some (.int .i32 r.2)) (go_keep)
              ((go_at_call 15; rw [key_go hpr1 hr2]; refine (intern15_tab (T2.alloc _).drew.drew (by simp; omega) (Flip.child pr 0, r.2) ⟨hpr1, hr2⟩ (by omega)).mono ?_; rintro e w3 ⟨rfl, gp3, cp3, Dp3, T3, hgp3, ho3⟩; have k4 : w3.cell? ⟨tb, 4, none⟩ = some (.map (some bp)) := blk_cell (o := 4) T3.blk rfl; obtain ⟨k0, k1⟩ := pair_kept T2 ho3))
            go_wp2
            go_roundw
            case rel =>
              obtain ⟨q1, q2⟩ := up_step hI hv hlt HN2 HR HPR (by rw [hb]; simp [Flip.setChild, Flip.child]) T2 hgw2 hgp2 ho2 hpb2 hps2 hpath2 T3 hgp3 ho3
              exact ⟨l + 1, hlt, by go_num, by rw [q1], q2⟩
            case measure => simp [intOf]; omega
        · go_wp2
          go_ret
          obtain rfl : l = k := by omega
          obtain ⟨hs1, hs2, hs3, hs4⟩ := flip_sizes hI hv (i := i) (l := l) (by omega)
          rw [Nat.sub_self] at T2 hs4
          simp only [Flip.nodeAt] at T2 hs4
          obtain ⟨r1, r2⟩ := flip_end h0 o1 o2 o3 o4 hoc T2 hgw2 hgp2 ho2
          refine ⟨ret_int ?_, r1, r2⟩
          rw [Nat.sub_self]
          simp only [Flip.nodeAt]
          rw [IntKind.wrap_u64]
          omega
end Go.Proofs.Qxb6619265a

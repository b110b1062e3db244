/-
  The law's own walk.
-/
import Derived.Test.Qxb6621709aRead
namespace Go.Proofs.Qxb6621709a
open Go.RowKit Go.Maps

theorem rb_any (g cap : Nat) (lb lp : List UInt8) (oP : Option Addr) (w : World) (h1 : lb.length ≤ 1048576) (h2 : lp.length ≤ 1048576) (hR : Reads8 w g (lb ++ rec8 oP lp)) (hP : Has w oP lp) :
    Calls Try.prog 8 #[.slice (some ⟨g, 0, none⟩) (lb ++ rec8 oP lp).length cap, .int .i64 (lb.length : Nat), .slice oP lp.length lp.length] w fun e w' => e = .returned (.tuple #[.int .i64 ((lb ++ rec8 oP lp).length : Nat), .bool true]) ∧ Still w w' := by
  rcases hP with ⟨rfl, rfl⟩ | ⟨k0, rfl, h⟩
  · have e : (lb ++ rec8 none []).length = lb.length + 1 := by simp [rec8, mark, Lib.uvarint_small]
    have H := rb_nil g cap lb.length (lb ++ rec8 none []) w (by rw [e]; omega) (by
      intro j c hj
      rw [List.getElem?_append_right (by omega), Nat.add_sub_cancel_left]
      simpa [rec8, mark] using hj) hR
    rw [e] at H ⊢
    exact H
  · have hl := Lib.uvarint_length64 (x := lp.length + 1) (by omega)
    have e : (lb ++ rec8 (some ⟨k0, 0, none⟩) lp).length = lb.length + (Lib.uvarint (lp.length + 1)).length + lp.length := by simp [rec8, mark]; omega
    refine rb_some g cap lb.length (lb.length + (Lib.uvarint (lp.length + 1)).length) lp.length k0 (lb ++ rec8 (some ⟨k0, 0, none⟩) lp) lp w (by rw [e]; omega) rfl rfl e h2 ?_ ?_ hR (Has.reads h)
    · intro j c hj
      rw [List.getElem?_append_right (by omega), Nat.add_sub_cancel_left]
      have hlt := (List.getElem?_eq_some_iff.1 hj).1
      simp only [rec8, mark, Option.isNone_some, Bool.false_eq_true, if_false]
      rw [List.getElem?_append_left hlt]
      exact hj
    · intro j c hj
      rw [List.getElem?_append_right (by omega), show lb.length + (Lib.uvarint (lp.length + 1)).length + j - lb.length = (Lib.uvarint (lp.length + 1)).length + j from by omega]
      simp only [rec8, mark, Option.isNone_some, Bool.false_eq_true, if_false]
      rw [List.getElem?_append_right (by omega), Nat.add_sub_cancel_left]
      exact hj

theorem Has.still {w w' : World} {oa : Option Addr} {l : List UInt8} (h : Has w oa l) (hs : Still w w') : Has w' oa l := h.below (hs _)

/-- Blocks of the first two clones are not the third's. -/
theorem Has.turned {w w' : World} {oa ob : Option Addr} {l : List UInt8} {n m : Nat} (h : Has w oa l) (hg : w.grownBy w' (Value.slice ob n m).ownBlock) (hne : ∀ x y, ob = some x → oa = some y → x.block ≠ y.block) : Has w' oa l := by
  refine h.kept fun x hx => hg.block _ (h.lt x hx) ?_
  cases ob with
  | none => simp [Value.ownBlock]
  | some y => simp [Value.ownBlock]; intro e; exact hne y x rfl hx e.symm

set_option maxHeartbeats 2000000 in
set_option maxRecDepth 100000 in
theorem law (a0 : Option Addr) (len0 cap0 : Nat) (lb : List UInt8) (a1 : Option Addr) (len1 cap1 : Nat) (lp : List UInt8) (w : World) (h0 : Came8 w a0 len0 cap0 lb) (h1 : Came8 w a1 len1 cap1 lp) (e0 : lb.length = len0) (e1 : lp.length = len1) (b0 : len0 ≤ 262144) (b1 : len1 ≤ 262144) :
    Calls Try.prog 3 #[.slice a0 len0 cap0, .slice a1 len1 cap1] w fun e w' => e = .returned (.bool true) ∧ Below w.heap.size w w' := by
  have H0 : Hid (Came8 w a0 len0 cap0 lb) := h0
  have H1 : Hid (Came8 w a1 len1 cap1 lp) := h1
  clear h0 h1
  subst e0 e1
  go_enter Try.func3, Try.ntmps3
  go_wp2_with fail
  refine (bytes_any a0 a1 lb.length lp.length cap0 cap1 _ (by omega)).mono ?_
  rintro e w0 ⟨rfl, rfl⟩
  go_wp2_with fail
  refine (clone_any H0.out (by omega)).mono ?_
  rintro e w1 ⟨oB, rfl, iB, hB, lB, k1⟩
  have H2 : Hid (Came8 w1 a0 lb.length cap0 lb ∧ Came8 w1 a1 lp.length cap1 lp ∧ Has w1 oB lb ∧ Below w0.heap.size w0 w1) :=
    ⟨H0.out.below k1, H1.out.below k1, hB, k1⟩
  clear hB k1 H0 H1 iB lB
  go_wp2_with fail
  refine (clone_any H2.out.2.1 (by omega)).mono ?_
  rintro e w2 ⟨oP, rfl, iP, hP, lP, k2⟩
  have H3 : Hid (Came8 w2 a0 lb.length cap0 lb ∧ Came8 w2 a1 lp.length cap1 lp ∧ Has w2 oB lb ∧ Has w2 oP lp ∧ Below w0.heap.size w0 w2 ∧ oP.isNone = a1.isNone) :=
    ⟨H2.out.1.below k2, H2.out.2.1.below k2, H2.out.2.2.1.below k2, hP, H2.out.2.2.2.trans (k2.mono H2.out.2.2.2.size), iP⟩
  clear hP k2 H2 iP lP
  go_wp2_with fail
  refine (clone_any H3.out.1 (by omega)).mono ?_
  rintro e w3 ⟨ob, rfl, ib, hb, lb3, k3⟩
  obtain ⟨H31, H32, H33, H34, H35, H36⟩ := H3.out
  have H4 : Hid (Came8 w3 a1 lp.length cap1 lp ∧ Has w3 oB lb ∧ Has w3 oP lp ∧ Has w3 ob lb ∧ Below w0.heap.size w0 w3 ∧ oP.isNone = a1.isNone ∧ (∀ x y, ob = some x → oB = some y → x.block ≠ y.block) ∧ (∀ x y, ob = some x → oP = some y → x.block ≠ y.block) ∧ (∀ x, ob = some x → w0.heap.size ≤ x.block)) :=
    ⟨H32.below k3, H33.below k3, H34.below k3, hb, H35.trans (k3.mono H35.size), H36, fun x y hx hy => by have := lb3 x hx; have := H33.lt y hy; omega, fun x y hx hy => by have := lb3 x hx; have := H34.lt y hy; omega, fun x hx => by have := lb3 x hx; have := H35.size; omega⟩
  clear hb k3 H3 ib lb3 H31 H32 H33 H34 H35 H36
  go_wp2_with fail
  refine (clone_any H4.out.1 (by omega)).mono ?_
  rintro e w4 ⟨op, rfl, ip, hp, lp4, k4⟩
  obtain ⟨_, H33, H34, H35, H36, H37, H38, H39, H310⟩ := H4.out
  have H5 : Hid (Has w4 oB lb ∧ Has w4 oP lp ∧ Has w4 ob lb ∧ Has w4 op lp ∧ Below w0.heap.size w0 w4 ∧ op.isNone = oP.isNone ∧ (∀ x y, ob = some x → oB = some y → x.block ≠ y.block) ∧ (∀ x y, ob = some x → oP = some y → x.block ≠ y.block) ∧ (∀ x y, ob = some x → op = some y → x.block ≠ y.block) ∧ (∀ x, ob = some x → w0.heap.size ≤ x.block)) :=
    ⟨H33.below k4, H34.below k4, H35.below k4, hp, H36.trans (k4.mono H36.size), ip.trans H37.symm, H38, H39, fun x y hx hy => by have := lp4 y hy; have := H35.lt x hx; omega, H310⟩
  clear hp k4 H4 ip lp4 H33 H34 H35 H36 H37 H38 H39 H310
  go_wp2_with fail
  refine (zzab_any H5.out.2.2.1 H5.out.2.2.2.1 (by omega) (by omega) H5.out.2.2.2.2.2.2.2.2.1).mono ?_
  rintro e w5 ⟨g, cap, rfl, hR, hG⟩
  obtain ⟨J1, J2, J3, J4, J5, J6, J7, J8, J9, J10⟩ := H5.out
  have er : rec8 op lp = rec8 oP lp := by simp [rec8, mark, J6]
  rw [er] at hR ⊢
  have hBel : Below w0.heap.size w0 w5 := by
    refine J5.trans ⟨hG.os, hG.tape, hG.output, hG.size, fun k hk => hG.block k (by have := J5.size; omega) ?_⟩
    cases ob with
    | none => simp [Value.ownBlock]
    | some y => simp [Value.ownBlock]; intro e; have := J10 y rfl; omega
  have H6 : Hid (Has w5 oB lb ∧ Has w5 oP lp ∧ Reads8 w5 g (lb ++ rec8 oP lp) ∧ Below w0.heap.size w0 w5) :=
    ⟨J1.turned hG J7, J2.turned hG J8, hR, hBel⟩
  clear hR hG J1 J2 J3 J4 J5 J6 J7 J8 J9 J10 H5 er hBel
  have HL : Hid ((lb ++ rec8 oP lp).length ≤ 4194304) := by
    show (lb ++ rec8 oP lp).length ≤ 4194304
    have := Lib.uvarint_length64 (x := mark oP lp) (by unfold mark; split <;> omega)
    simp [rec8]; omega
  have HP := fun v cap h => prefix_any g cap lb (rec8 oP lp) oB v HL.out h
  have HB := fun v cap h => rb_any g cap lb lp oP v (by omega) (by omega) h
  obtain ⟨out, ho⟩ : ∃ out, lb ++ rec8 oP lp = out := ⟨_, rfl⟩
  rw [ho] at H6 HL ⊢
  simp only [ho] at HP HB
  clear ho
  have HP2 : Hid _ := HP
  have HB2 : Hid _ := HB
  clear HP HB
  have hL : out.length ≤ 4194304 := HL.out
  go_wp2_with fail
  refine (HP2.out _ _ H6.out.2.2.1 H6.out.1).mono ?_
  rintro e w6 ⟨rfl, hS⟩
  have H7 : Hid (Has w6 oP lp ∧ Reads8 w6 g out ∧ Below w0.heap.size w0 w6) := ⟨H6.out.2.1.still hS, H6.out.2.2.1.still hS, H6.out.2.2.2.trans (hS _)⟩
  clear H6 hS
  go_wp2_with fail
  refine (HB2.out _ _ H7.out.2.1 H7.out.1).mono ?_
  rintro e w7 ⟨rfl, hS⟩
  have H8 : Hid (Below w0.heap.size w0 w7) := H7.out.2.2.trans (hS _)
  clear H7 hS
  go_wp2
  go_ret
  exact ⟨rfl, H8.out⟩
end Go.Proofs.Qxb6621709a

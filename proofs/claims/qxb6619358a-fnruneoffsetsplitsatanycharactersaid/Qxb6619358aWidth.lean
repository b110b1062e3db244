/-
  zzCharWidth (fn 15): it computes the width of the model's own decoding. Laid by a generator of ours, a class of first bytes a theorem.
-/
import Derived.Test.Qxb6619358aEnd
import Derived.Laws.RangeAny
import Derived.Lib.DecodeNEq
import Derived.LoopN
namespace Go.Proofs.Qxb6619358a
open Go.RowKit

theorem ret_int {a b : Int} (h : a = b) : Ending.returned (.int .i64 a) = .returned (.int .i64 b) := by rw [h]
theorem get_byte (s : ByteArray) (k : Nat) (h : k < s.size) : s.get! k = s[k]'h := by simpa using get_at s k h
theorem get_lt (s : ByteArray) (k : Nat) : (s.get! k).toNat < 256 := UInt8.toNat_lt _

set_option maxRecDepth 100000 in
set_option maxHeartbeats 2000000 in
theorem width_C2 (s : ByteArray) (p : Nat) (w : World) (hp : p < s.size) (hs : s.size ≤ 2097152) (h1 : 194 ≤ (s[p]'hp).toNat) (h2 : (s[p]'hp).toNat ≤ 223) :
    Calls Try.prog 15 #[.string s, .int .i64 p] w fun e w' => e = .returned (.int .i64 (Utf8.decode s p).2) ∧ w' = w := by
  have HD : Hid ((Utf8.decode s p).2 = (Lib.slowN (s.size - p) (s[p]'hp).toNat (s.get! (p + 1)).toNat (s.get! (p + 2)).toNat (s.get! (p + 3)).toNat 2 128 191).2) := by
    have h := Lib.slow_C2 (s.size - p) (s[p]'hp).toNat (s.get! (p + 1)).toNat (s.get! (p + 2)).toNat (s.get! (p + 3)).toNat (by omega) (get_lt _ _) (get_lt _ _) (get_lt _ _) ⟨by omega, by omega⟩
    rw [h, Lib.decode_at, get_byte s p hp]; exact rfl
  have a1 : decide ((194 : Int) ≤ ((s[p]'hp).toNat : Int)) = true := by simp; omega
  have a2 : decide (((s[p]'hp).toNat : Int) ≤ (223 : Int)) = true := by simp; omega
  have a3 : (((s[p]'hp).toNat : Int) == 224) = false := beq_eq_false_iff_ne.2 (by omega)
  have a4 : decide ((225 : Int) ≤ ((s[p]'hp).toNat : Int)) = false := by simp; omega
  have a6 : (((s[p]'hp).toNat : Int) == 238) = false := beq_eq_false_iff_ne.2 (by omega)
  have a7 : (((s[p]'hp).toNat : Int) == 239) = false := beq_eq_false_iff_ne.2 (by omega)
  have a8 : (((s[p]'hp).toNat : Int) == 237) = false := beq_eq_false_iff_ne.2 (by omega)
  have a9 : (((s[p]'hp).toNat : Int) == 240) = false := beq_eq_false_iff_ne.2 (by omega)
  have a10 : decide ((241 : Int) ≤ ((s[p]'hp).toNat : Int)) = false := by simp; omega
  have a12 : (((s[p]'hp).toNat : Int) == 244) = false := beq_eq_false_iff_ne.2 (by omega)
  by_cases hA : s.size - p < 2
  · have E : Hid ((Lib.slowN (s.size - p) (s[p]'hp).toNat (s.get! (p + 1)).toNat (s.get! (p + 2)).toNat (s.get! (p + 3)).toNat 2 128 191).2 = 1) := by unfold Lib.slowN; rw [if_pos hA]; exact rfl
    go_enter Try.func15, Try.ntmps15
    go_wp2
    go_ret
    exact ⟨ret_int (by rw [HD.out, E.out]; rfl), rfl⟩
  · have hq1 : p + 1 < s.size := by omega
    have G1 : Hid (s.get! (p + 1) = s[p + 1]'hq1) := get_byte s (p + 1) hq1
    by_cases hB : (s[p + 1]'hq1).toNat < 128
    · have c1 : decide (((s[p + 1]'hq1).toNat : Int) < 128) = true := by simp; omega
      have E : Hid ((Lib.slowN (s.size - p) (s[p]'hp).toNat (s.get! (p + 1)).toNat (s.get! (p + 2)).toNat (s.get! (p + 3)).toNat 2 128 191).2 = 1) := by unfold Lib.slowN; rw [if_neg hA, if_pos (by rw [G1.out]; exact Or.inl hB)]; exact rfl
      go_enter Try.func15, Try.ntmps15
      go_wp2
      go_ret
      exact ⟨ret_int (by rw [HD.out, E.out]; rfl), rfl⟩
    · have c1 : decide (((s[p + 1]'hq1).toNat : Int) < 128) = false := by simp; omega
      by_cases hC : 191 < (s[p + 1]'hq1).toNat
      · have c2 : decide ((191 : Int) < ((s[p + 1]'hq1).toNat : Int)) = true := by simp; omega
        have E : Hid ((Lib.slowN (s.size - p) (s[p]'hp).toNat (s.get! (p + 1)).toNat (s.get! (p + 2)).toNat (s.get! (p + 3)).toNat 2 128 191).2 = 1) := by unfold Lib.slowN; rw [if_neg hA, if_pos (by rw [G1.out]; exact Or.inr hC)]; exact rfl
        go_enter Try.func15, Try.ntmps15
        go_wp2
        go_ret
        exact ⟨ret_int (by rw [HD.out, E.out]; rfl), rfl⟩
      · have c2 : decide ((191 : Int) < ((s[p + 1]'hq1).toNat : Int)) = false := by simp; omega
        have E : Hid ((Lib.slowN (s.size - p) (s[p]'hp).toNat (s.get! (p + 1)).toNat (s.get! (p + 2)).toNat (s.get! (p + 3)).toNat 2 128 191).2 = 2) := by unfold Lib.slowN; rw [if_neg hA, if_neg (by rw [G1.out]; omega), if_pos (by omega)]; exact rfl
        go_enter Try.func15, Try.ntmps15
        go_wp2
        refine wp_loop_rounds 1 ?_
        rw [rounds_succ]
        go_wp2
        go_ret
        exact ⟨ret_int (by rw [HD.out, E.out]; rfl), rfl⟩

set_option maxRecDepth 100000 in
set_option maxHeartbeats 2000000 in
theorem width_E0 (s : ByteArray) (p : Nat) (w : World) (hp : p < s.size) (hs : s.size ≤ 2097152) (h1 : 224 ≤ (s[p]'hp).toNat) (h2 : (s[p]'hp).toNat ≤ 224) :
    Calls Try.prog 15 #[.string s, .int .i64 p] w fun e w' => e = .returned (.int .i64 (Utf8.decode s p).2) ∧ w' = w := by
  have HD : Hid ((Utf8.decode s p).2 = (Lib.slowN (s.size - p) (s[p]'hp).toNat (s.get! (p + 1)).toNat (s.get! (p + 2)).toNat (s.get! (p + 3)).toNat 3 160 191).2) := by
    have h := Lib.slow_E0 (s.size - p) (s[p]'hp).toNat (s.get! (p + 1)).toNat (s.get! (p + 2)).toNat (s.get! (p + 3)).toNat (by omega) (get_lt _ _) (get_lt _ _) (get_lt _ _) (by omega)
    rw [h, Lib.decode_at, get_byte s p hp]; exact rfl
  have a1 : decide ((194 : Int) ≤ ((s[p]'hp).toNat : Int)) = true := by simp; omega
  have a2 : decide (((s[p]'hp).toNat : Int) ≤ (223 : Int)) = false := by simp; omega
  have a3 : (((s[p]'hp).toNat : Int) == 224) = true := beq_iff_eq.2 (by omega)
  have a4 : decide ((225 : Int) ≤ ((s[p]'hp).toNat : Int)) = false := by simp; omega
  have a6 : (((s[p]'hp).toNat : Int) == 238) = false := beq_eq_false_iff_ne.2 (by omega)
  have a7 : (((s[p]'hp).toNat : Int) == 239) = false := beq_eq_false_iff_ne.2 (by omega)
  have a8 : (((s[p]'hp).toNat : Int) == 237) = false := beq_eq_false_iff_ne.2 (by omega)
  have a9 : (((s[p]'hp).toNat : Int) == 240) = false := beq_eq_false_iff_ne.2 (by omega)
  have a10 : decide ((241 : Int) ≤ ((s[p]'hp).toNat : Int)) = false := by simp; omega
  have a12 : (((s[p]'hp).toNat : Int) == 244) = false := beq_eq_false_iff_ne.2 (by omega)
  by_cases hA : s.size - p < 3
  · have E : Hid ((Lib.slowN (s.size - p) (s[p]'hp).toNat (s.get! (p + 1)).toNat (s.get! (p + 2)).toNat (s.get! (p + 3)).toNat 3 160 191).2 = 1) := by unfold Lib.slowN; rw [if_pos hA]; exact rfl
    go_enter Try.func15, Try.ntmps15
    go_wp2
    go_ret
    exact ⟨ret_int (by rw [HD.out, E.out]; rfl), rfl⟩
  · have hq1 : p + 1 < s.size := by omega
    have G1 : Hid (s.get! (p + 1) = s[p + 1]'hq1) := get_byte s (p + 1) hq1
    by_cases hB : (s[p + 1]'hq1).toNat < 160
    · have c1 : decide (((s[p + 1]'hq1).toNat : Int) < 160) = true := by simp; omega
      have E : Hid ((Lib.slowN (s.size - p) (s[p]'hp).toNat (s.get! (p + 1)).toNat (s.get! (p + 2)).toNat (s.get! (p + 3)).toNat 3 160 191).2 = 1) := by unfold Lib.slowN; rw [if_neg hA, if_pos (by rw [G1.out]; exact Or.inl hB)]; exact rfl
      go_enter Try.func15, Try.ntmps15
      go_wp2
      go_ret
      exact ⟨ret_int (by rw [HD.out, E.out]; rfl), rfl⟩
    · have c1 : decide (((s[p + 1]'hq1).toNat : Int) < 160) = false := by simp; omega
      by_cases hC : 191 < (s[p + 1]'hq1).toNat
      · have c2 : decide ((191 : Int) < ((s[p + 1]'hq1).toNat : Int)) = true := by simp; omega
        have E : Hid ((Lib.slowN (s.size - p) (s[p]'hp).toNat (s.get! (p + 1)).toNat (s.get! (p + 2)).toNat (s.get! (p + 3)).toNat 3 160 191).2 = 1) := by unfold Lib.slowN; rw [if_neg hA, if_pos (by rw [G1.out]; exact Or.inr hC)]; exact rfl
        go_enter Try.func15, Try.ntmps15
        go_wp2
        go_ret
        exact ⟨ret_int (by rw [HD.out, E.out]; rfl), rfl⟩
      · have c2 : decide ((191 : Int) < ((s[p + 1]'hq1).toNat : Int)) = false := by simp; omega
        have hq2 : p + 2 < s.size := by omega
        have G2 : Hid (s.get! (p + 2) = s[p + 2]'hq2) := get_byte s (p + 2) hq2
        by_cases hB2 : (s[p + 2]'hq2).toNat < 128
        · have d2 : decide (((s[p + 2]'hq2).toNat : Int) < 128) = true := by simp; omega
          have E : Hid ((Lib.slowN (s.size - p) (s[p]'hp).toNat (s.get! (p + 1)).toNat (s.get! (p + 2)).toNat (s.get! (p + 3)).toNat 3 160 191).2 = 1) := by unfold Lib.slowN; rw [if_neg hA, if_neg (by rw [G1.out]; omega), if_neg (by omega), if_pos (by rw [G2.out]; exact Or.inl hB2)]; exact rfl
          go_enter Try.func15, Try.ntmps15
          go_wp2
          refine wp_loop_rounds 1 ?_
          rw [rounds_succ]
          go_wp2
          go_ret
          exact ⟨ret_int (by rw [HD.out, E.out]; rfl), rfl⟩
        · have d2 : decide (((s[p + 2]'hq2).toNat : Int) < 128) = false := by simp; omega
          by_cases hC2 : 191 < (s[p + 2]'hq2).toNat
          · have f2 : decide ((191 : Int) < ((s[p + 2]'hq2).toNat : Int)) = true := by simp; omega
            have E : Hid ((Lib.slowN (s.size - p) (s[p]'hp).toNat (s.get! (p + 1)).toNat (s.get! (p + 2)).toNat (s.get! (p + 3)).toNat 3 160 191).2 = 1) := by unfold Lib.slowN; rw [if_neg hA, if_neg (by rw [G1.out]; omega), if_neg (by omega), if_pos (by rw [G2.out]; exact Or.inr hC2)]; exact rfl
            go_enter Try.func15, Try.ntmps15
            go_wp2
            refine wp_loop_rounds 1 ?_
            rw [rounds_succ]
            go_wp2
            go_ret
            exact ⟨ret_int (by rw [HD.out, E.out]; rfl), rfl⟩
          · have f2 : decide ((191 : Int) < ((s[p + 2]'hq2).toNat : Int)) = false := by simp; omega
            have E : Hid ((Lib.slowN (s.size - p) (s[p]'hp).toNat (s.get! (p + 1)).toNat (s.get! (p + 2)).toNat (s.get! (p + 3)).toNat 3 160 191).2 = 3) := by unfold Lib.slowN; rw [if_neg hA, if_neg (by rw [G1.out]; omega), if_neg (by omega), if_neg (by rw [G2.out]; omega), if_pos (by omega)]; exact rfl
            go_enter Try.func15, Try.ntmps15
            go_wp2
            refine wp_loop_rounds 2 ?_
            rw [rounds_succ]
            go_wp2
            rw [rounds_succ]
            go_wp2
            go_ret
            exact ⟨ret_int (by rw [HD.out, E.out]; rfl), rfl⟩

set_option maxRecDepth 100000 in
set_option maxHeartbeats 2000000 in
theorem width_E1 (s : ByteArray) (p : Nat) (w : World) (hp : p < s.size) (hs : s.size ≤ 2097152) (h1 : 225 ≤ (s[p]'hp).toNat) (h2 : (s[p]'hp).toNat ≤ 236) :
    Calls Try.prog 15 #[.string s, .int .i64 p] w fun e w' => e = .returned (.int .i64 (Utf8.decode s p).2) ∧ w' = w := by
  have HD : Hid ((Utf8.decode s p).2 = (Lib.slowN (s.size - p) (s[p]'hp).toNat (s.get! (p + 1)).toNat (s.get! (p + 2)).toNat (s.get! (p + 3)).toNat 3 128 191).2) := by
    have h := Lib.slow_E1 (s.size - p) (s[p]'hp).toNat (s.get! (p + 1)).toNat (s.get! (p + 2)).toNat (s.get! (p + 3)).toNat (by omega) (get_lt _ _) (get_lt _ _) (get_lt _ _) (by omega)
    rw [h, Lib.decode_at, get_byte s p hp]; exact rfl
  have a1 : decide ((194 : Int) ≤ ((s[p]'hp).toNat : Int)) = true := by simp; omega
  have a2 : decide (((s[p]'hp).toNat : Int) ≤ (223 : Int)) = false := by simp; omega
  have a3 : (((s[p]'hp).toNat : Int) == 224) = false := beq_eq_false_iff_ne.2 (by omega)
  have a4 : decide ((225 : Int) ≤ ((s[p]'hp).toNat : Int)) = true := by simp; omega
  have a5 : decide (((s[p]'hp).toNat : Int) ≤ (236 : Int)) = true := by simp; omega
  have a6 : (((s[p]'hp).toNat : Int) == 238) = false := beq_eq_false_iff_ne.2 (by omega)
  have a7 : (((s[p]'hp).toNat : Int) == 239) = false := beq_eq_false_iff_ne.2 (by omega)
  have a8 : (((s[p]'hp).toNat : Int) == 237) = false := beq_eq_false_iff_ne.2 (by omega)
  have a9 : (((s[p]'hp).toNat : Int) == 240) = false := beq_eq_false_iff_ne.2 (by omega)
  have a10 : decide ((241 : Int) ≤ ((s[p]'hp).toNat : Int)) = false := by simp; omega
  have a12 : (((s[p]'hp).toNat : Int) == 244) = false := beq_eq_false_iff_ne.2 (by omega)
  by_cases hA : s.size - p < 3
  · have E : Hid ((Lib.slowN (s.size - p) (s[p]'hp).toNat (s.get! (p + 1)).toNat (s.get! (p + 2)).toNat (s.get! (p + 3)).toNat 3 128 191).2 = 1) := by unfold Lib.slowN; rw [if_pos hA]; exact rfl
    go_enter Try.func15, Try.ntmps15
    go_wp2
    go_ret
    exact ⟨ret_int (by rw [HD.out, E.out]; rfl), rfl⟩
  · have hq1 : p + 1 < s.size := by omega
    have G1 : Hid (s.get! (p + 1) = s[p + 1]'hq1) := get_byte s (p + 1) hq1
    by_cases hB : (s[p + 1]'hq1).toNat < 128
    · have c1 : decide (((s[p + 1]'hq1).toNat : Int) < 128) = true := by simp; omega
      have E : Hid ((Lib.slowN (s.size - p) (s[p]'hp).toNat (s.get! (p + 1)).toNat (s.get! (p + 2)).toNat (s.get! (p + 3)).toNat 3 128 191).2 = 1) := by unfold Lib.slowN; rw [if_neg hA, if_pos (by rw [G1.out]; exact Or.inl hB)]; exact rfl
      go_enter Try.func15, Try.ntmps15
      go_wp2
      go_ret
      exact ⟨ret_int (by rw [HD.out, E.out]; rfl), rfl⟩
    · have c1 : decide (((s[p + 1]'hq1).toNat : Int) < 128) = false := by simp; omega
      by_cases hC : 191 < (s[p + 1]'hq1).toNat
      · have c2 : decide ((191 : Int) < ((s[p + 1]'hq1).toNat : Int)) = true := by simp; omega
        have E : Hid ((Lib.slowN (s.size - p) (s[p]'hp).toNat (s.get! (p + 1)).toNat (s.get! (p + 2)).toNat (s.get! (p + 3)).toNat 3 128 191).2 = 1) := by unfold Lib.slowN; rw [if_neg hA, if_pos (by rw [G1.out]; exact Or.inr hC)]; exact rfl
        go_enter Try.func15, Try.ntmps15
        go_wp2
        go_ret
        exact ⟨ret_int (by rw [HD.out, E.out]; rfl), rfl⟩
      · have c2 : decide ((191 : Int) < ((s[p + 1]'hq1).toNat : Int)) = false := by simp; omega
        have hq2 : p + 2 < s.size := by omega
        have G2 : Hid (s.get! (p + 2) = s[p + 2]'hq2) := get_byte s (p + 2) hq2
        by_cases hB2 : (s[p + 2]'hq2).toNat < 128
        · have d2 : decide (((s[p + 2]'hq2).toNat : Int) < 128) = true := by simp; omega
          have E : Hid ((Lib.slowN (s.size - p) (s[p]'hp).toNat (s.get! (p + 1)).toNat (s.get! (p + 2)).toNat (s.get! (p + 3)).toNat 3 128 191).2 = 1) := by unfold Lib.slowN; rw [if_neg hA, if_neg (by rw [G1.out]; omega), if_neg (by omega), if_pos (by rw [G2.out]; exact Or.inl hB2)]; exact rfl
          go_enter Try.func15, Try.ntmps15
          go_wp2
          refine wp_loop_rounds 1 ?_
          rw [rounds_succ]
          go_wp2
          go_ret
          exact ⟨ret_int (by rw [HD.out, E.out]; rfl), rfl⟩
        · have d2 : decide (((s[p + 2]'hq2).toNat : Int) < 128) = false := by simp; omega
          by_cases hC2 : 191 < (s[p + 2]'hq2).toNat
          · have f2 : decide ((191 : Int) < ((s[p + 2]'hq2).toNat : Int)) = true := by simp; omega
            have E : Hid ((Lib.slowN (s.size - p) (s[p]'hp).toNat (s.get! (p + 1)).toNat (s.get! (p + 2)).toNat (s.get! (p + 3)).toNat 3 128 191).2 = 1) := by unfold Lib.slowN; rw [if_neg hA, if_neg (by rw [G1.out]; omega), if_neg (by omega), if_pos (by rw [G2.out]; exact Or.inr hC2)]; exact rfl
            go_enter Try.func15, Try.ntmps15
            go_wp2
            refine wp_loop_rounds 1 ?_
            rw [rounds_succ]
            go_wp2
            go_ret
            exact ⟨ret_int (by rw [HD.out, E.out]; rfl), rfl⟩
          · have f2 : decide ((191 : Int) < ((s[p + 2]'hq2).toNat : Int)) = false := by simp; omega
            have E : Hid ((Lib.slowN (s.size - p) (s[p]'hp).toNat (s.get! (p + 1)).toNat (s.get! (p + 2)).toNat (s.get! (p + 3)).toNat 3 128 191).2 = 3) := by unfold Lib.slowN; rw [if_neg hA, if_neg (by rw [G1.out]; omega), if_neg (by omega), if_neg (by rw [G2.out]; omega), if_pos (by omega)]; exact rfl
            go_enter Try.func15, Try.ntmps15
            go_wp2
            refine wp_loop_rounds 2 ?_
            rw [rounds_succ]
            go_wp2
            rw [rounds_succ]
            go_wp2
            go_ret
            exact ⟨ret_int (by rw [HD.out, E.out]; rfl), rfl⟩

set_option maxRecDepth 100000 in
set_option maxHeartbeats 2000000 in
theorem width_EE (s : ByteArray) (p : Nat) (w : World) (hp : p < s.size) (hs : s.size ≤ 2097152) (h1 : 238 ≤ (s[p]'hp).toNat) (h2 : (s[p]'hp).toNat ≤ 238) :
    Calls Try.prog 15 #[.string s, .int .i64 p] w fun e w' => e = .returned (.int .i64 (Utf8.decode s p).2) ∧ w' = w := by
  have HD : Hid ((Utf8.decode s p).2 = (Lib.slowN (s.size - p) (s[p]'hp).toNat (s.get! (p + 1)).toNat (s.get! (p + 2)).toNat (s.get! (p + 3)).toNat 3 128 191).2) := by
    have h := Lib.slow_E1 (s.size - p) (s[p]'hp).toNat (s.get! (p + 1)).toNat (s.get! (p + 2)).toNat (s.get! (p + 3)).toNat (by omega) (get_lt _ _) (get_lt _ _) (get_lt _ _) (by omega)
    rw [h, Lib.decode_at, get_byte s p hp]; exact rfl
  have a1 : decide ((194 : Int) ≤ ((s[p]'hp).toNat : Int)) = true := by simp; omega
  have a2 : decide (((s[p]'hp).toNat : Int) ≤ (223 : Int)) = false := by simp; omega
  have a3 : (((s[p]'hp).toNat : Int) == 224) = false := beq_eq_false_iff_ne.2 (by omega)
  have a4 : decide ((225 : Int) ≤ ((s[p]'hp).toNat : Int)) = true := by simp; omega
  have a5 : decide (((s[p]'hp).toNat : Int) ≤ (236 : Int)) = false := by simp; omega
  have a6 : (((s[p]'hp).toNat : Int) == 238) = true := beq_iff_eq.2 (by omega)
  have a7 : (((s[p]'hp).toNat : Int) == 239) = false := beq_eq_false_iff_ne.2 (by omega)
  have a8 : (((s[p]'hp).toNat : Int) == 237) = false := beq_eq_false_iff_ne.2 (by omega)
  have a9 : (((s[p]'hp).toNat : Int) == 240) = false := beq_eq_false_iff_ne.2 (by omega)
  have a10 : decide ((241 : Int) ≤ ((s[p]'hp).toNat : Int)) = false := by simp; omega
  have a12 : (((s[p]'hp).toNat : Int) == 244) = false := beq_eq_false_iff_ne.2 (by omega)
  by_cases hA : s.size - p < 3
  · have E : Hid ((Lib.slowN (s.size - p) (s[p]'hp).toNat (s.get! (p + 1)).toNat (s.get! (p + 2)).toNat (s.get! (p + 3)).toNat 3 128 191).2 = 1) := by unfold Lib.slowN; rw [if_pos hA]; exact rfl
    go_enter Try.func15, Try.ntmps15
    go_wp2
    go_ret
    exact ⟨ret_int (by rw [HD.out, E.out]; rfl), rfl⟩
  · have hq1 : p + 1 < s.size := by omega
    have G1 : Hid (s.get! (p + 1) = s[p + 1]'hq1) := get_byte s (p + 1) hq1
    by_cases hB : (s[p + 1]'hq1).toNat < 128
    · have c1 : decide (((s[p + 1]'hq1).toNat : Int) < 128) = true := by simp; omega
      have E : Hid ((Lib.slowN (s.size - p) (s[p]'hp).toNat (s.get! (p + 1)).toNat (s.get! (p + 2)).toNat (s.get! (p + 3)).toNat 3 128 191).2 = 1) := by unfold Lib.slowN; rw [if_neg hA, if_pos (by rw [G1.out]; exact Or.inl hB)]; exact rfl
      go_enter Try.func15, Try.ntmps15
      go_wp2
      go_ret
      exact ⟨ret_int (by rw [HD.out, E.out]; rfl), rfl⟩
    · have c1 : decide (((s[p + 1]'hq1).toNat : Int) < 128) = false := by simp; omega
      by_cases hC : 191 < (s[p + 1]'hq1).toNat
      · have c2 : decide ((191 : Int) < ((s[p + 1]'hq1).toNat : Int)) = true := by simp; omega
        have E : Hid ((Lib.slowN (s.size - p) (s[p]'hp).toNat (s.get! (p + 1)).toNat (s.get! (p + 2)).toNat (s.get! (p + 3)).toNat 3 128 191).2 = 1) := by unfold Lib.slowN; rw [if_neg hA, if_pos (by rw [G1.out]; exact Or.inr hC)]; exact rfl
        go_enter Try.func15, Try.ntmps15
        go_wp2
        go_ret
        exact ⟨ret_int (by rw [HD.out, E.out]; rfl), rfl⟩
      · have c2 : decide ((191 : Int) < ((s[p + 1]'hq1).toNat : Int)) = false := by simp; omega
        have hq2 : p + 2 < s.size := by omega
        have G2 : Hid (s.get! (p + 2) = s[p + 2]'hq2) := get_byte s (p + 2) hq2
        by_cases hB2 : (s[p + 2]'hq2).toNat < 128
        · have d2 : decide (((s[p + 2]'hq2).toNat : Int) < 128) = true := by simp; omega
          have E : Hid ((Lib.slowN (s.size - p) (s[p]'hp).toNat (s.get! (p + 1)).toNat (s.get! (p + 2)).toNat (s.get! (p + 3)).toNat 3 128 191).2 = 1) := by unfold Lib.slowN; rw [if_neg hA, if_neg (by rw [G1.out]; omega), if_neg (by omega), if_pos (by rw [G2.out]; exact Or.inl hB2)]; exact rfl
          go_enter Try.func15, Try.ntmps15
          go_wp2
          refine wp_loop_rounds 1 ?_
          rw [rounds_succ]
          go_wp2
          go_ret
          exact ⟨ret_int (by rw [HD.out, E.out]; rfl), rfl⟩
        · have d2 : decide (((s[p + 2]'hq2).toNat : Int) < 128) = false := by simp; omega
          by_cases hC2 : 191 < (s[p + 2]'hq2).toNat
          · have f2 : decide ((191 : Int) < ((s[p + 2]'hq2).toNat : Int)) = true := by simp; omega
            have E : Hid ((Lib.slowN (s.size - p) (s[p]'hp).toNat (s.get! (p + 1)).toNat (s.get! (p + 2)).toNat (s.get! (p + 3)).toNat 3 128 191).2 = 1) := by unfold Lib.slowN; rw [if_neg hA, if_neg (by rw [G1.out]; omega), if_neg (by omega), if_pos (by rw [G2.out]; exact Or.inr hC2)]; exact rfl
            go_enter Try.func15, Try.ntmps15
            go_wp2
            refine wp_loop_rounds 1 ?_
            rw [rounds_succ]
            go_wp2
            go_ret
            exact ⟨ret_int (by rw [HD.out, E.out]; rfl), rfl⟩
          · have f2 : decide ((191 : Int) < ((s[p + 2]'hq2).toNat : Int)) = false := by simp; omega
            have E : Hid ((Lib.slowN (s.size - p) (s[p]'hp).toNat (s.get! (p + 1)).toNat (s.get! (p + 2)).toNat (s.get! (p + 3)).toNat 3 128 191).2 = 3) := by unfold Lib.slowN; rw [if_neg hA, if_neg (by rw [G1.out]; omega), if_neg (by omega), if_neg (by rw [G2.out]; omega), if_pos (by omega)]; exact rfl
            go_enter Try.func15, Try.ntmps15
            go_wp2
            refine wp_loop_rounds 2 ?_
            rw [rounds_succ]
            go_wp2
            rw [rounds_succ]
            go_wp2
            go_ret
            exact ⟨ret_int (by rw [HD.out, E.out]; rfl), rfl⟩

set_option maxRecDepth 100000 in
set_option maxHeartbeats 2000000 in
theorem width_EF (s : ByteArray) (p : Nat) (w : World) (hp : p < s.size) (hs : s.size ≤ 2097152) (h1 : 239 ≤ (s[p]'hp).toNat) (h2 : (s[p]'hp).toNat ≤ 239) :
    Calls Try.prog 15 #[.string s, .int .i64 p] w fun e w' => e = .returned (.int .i64 (Utf8.decode s p).2) ∧ w' = w := by
  have HD : Hid ((Utf8.decode s p).2 = (Lib.slowN (s.size - p) (s[p]'hp).toNat (s.get! (p + 1)).toNat (s.get! (p + 2)).toNat (s.get! (p + 3)).toNat 3 128 191).2) := by
    have h := Lib.slow_E1 (s.size - p) (s[p]'hp).toNat (s.get! (p + 1)).toNat (s.get! (p + 2)).toNat (s.get! (p + 3)).toNat (by omega) (get_lt _ _) (get_lt _ _) (get_lt _ _) (by omega)
    rw [h, Lib.decode_at, get_byte s p hp]; exact rfl
  have a1 : decide ((194 : Int) ≤ ((s[p]'hp).toNat : Int)) = true := by simp; omega
  have a2 : decide (((s[p]'hp).toNat : Int) ≤ (223 : Int)) = false := by simp; omega
  have a3 : (((s[p]'hp).toNat : Int) == 224) = false := beq_eq_false_iff_ne.2 (by omega)
  have a4 : decide ((225 : Int) ≤ ((s[p]'hp).toNat : Int)) = true := by simp; omega
  have a5 : decide (((s[p]'hp).toNat : Int) ≤ (236 : Int)) = false := by simp; omega
  have a6 : (((s[p]'hp).toNat : Int) == 238) = false := beq_eq_false_iff_ne.2 (by omega)
  have a7 : (((s[p]'hp).toNat : Int) == 239) = true := beq_iff_eq.2 (by omega)
  have a8 : (((s[p]'hp).toNat : Int) == 237) = false := beq_eq_false_iff_ne.2 (by omega)
  have a9 : (((s[p]'hp).toNat : Int) == 240) = false := beq_eq_false_iff_ne.2 (by omega)
  have a10 : decide ((241 : Int) ≤ ((s[p]'hp).toNat : Int)) = false := by simp; omega
  have a12 : (((s[p]'hp).toNat : Int) == 244) = false := beq_eq_false_iff_ne.2 (by omega)
  by_cases hA : s.size - p < 3
  · have E : Hid ((Lib.slowN (s.size - p) (s[p]'hp).toNat (s.get! (p + 1)).toNat (s.get! (p + 2)).toNat (s.get! (p + 3)).toNat 3 128 191).2 = 1) := by unfold Lib.slowN; rw [if_pos hA]; exact rfl
    go_enter Try.func15, Try.ntmps15
    go_wp2
    go_ret
    exact ⟨ret_int (by rw [HD.out, E.out]; rfl), rfl⟩
  · have hq1 : p + 1 < s.size := by omega
    have G1 : Hid (s.get! (p + 1) = s[p + 1]'hq1) := get_byte s (p + 1) hq1
    by_cases hB : (s[p + 1]'hq1).toNat < 128
    · have c1 : decide (((s[p + 1]'hq1).toNat : Int) < 128) = true := by simp; omega
      have E : Hid ((Lib.slowN (s.size - p) (s[p]'hp).toNat (s.get! (p + 1)).toNat (s.get! (p + 2)).toNat (s.get! (p + 3)).toNat 3 128 191).2 = 1) := by unfold Lib.slowN; rw [if_neg hA, if_pos (by rw [G1.out]; exact Or.inl hB)]; exact rfl
      go_enter Try.func15, Try.ntmps15
      go_wp2
      go_ret
      exact ⟨ret_int (by rw [HD.out, E.out]; rfl), rfl⟩
    · have c1 : decide (((s[p + 1]'hq1).toNat : Int) < 128) = false := by simp; omega
      by_cases hC : 191 < (s[p + 1]'hq1).toNat
      · have c2 : decide ((191 : Int) < ((s[p + 1]'hq1).toNat : Int)) = true := by simp; omega
        have E : Hid ((Lib.slowN (s.size - p) (s[p]'hp).toNat (s.get! (p + 1)).toNat (s.get! (p + 2)).toNat (s.get! (p + 3)).toNat 3 128 191).2 = 1) := by unfold Lib.slowN; rw [if_neg hA, if_pos (by rw [G1.out]; exact Or.inr hC)]; exact rfl
        go_enter Try.func15, Try.ntmps15
        go_wp2
        go_ret
        exact ⟨ret_int (by rw [HD.out, E.out]; rfl), rfl⟩
      · have c2 : decide ((191 : Int) < ((s[p + 1]'hq1).toNat : Int)) = false := by simp; omega
        have hq2 : p + 2 < s.size := by omega
        have G2 : Hid (s.get! (p + 2) = s[p + 2]'hq2) := get_byte s (p + 2) hq2
        by_cases hB2 : (s[p + 2]'hq2).toNat < 128
        · have d2 : decide (((s[p + 2]'hq2).toNat : Int) < 128) = true := by simp; omega
          have E : Hid ((Lib.slowN (s.size - p) (s[p]'hp).toNat (s.get! (p + 1)).toNat (s.get! (p + 2)).toNat (s.get! (p + 3)).toNat 3 128 191).2 = 1) := by unfold Lib.slowN; rw [if_neg hA, if_neg (by rw [G1.out]; omega), if_neg (by omega), if_pos (by rw [G2.out]; exact Or.inl hB2)]; exact rfl
          go_enter Try.func15, Try.ntmps15
          go_wp2
          refine wp_loop_rounds 1 ?_
          rw [rounds_succ]
          go_wp2
          go_ret
          exact ⟨ret_int (by rw [HD.out, E.out]; rfl), rfl⟩
        · have d2 : decide (((s[p + 2]'hq2).toNat : Int) < 128) = false := by simp; omega
          by_cases hC2 : 191 < (s[p + 2]'hq2).toNat
          · have f2 : decide ((191 : Int) < ((s[p + 2]'hq2).toNat : Int)) = true := by simp; omega
            have E : Hid ((Lib.slowN (s.size - p) (s[p]'hp).toNat (s.get! (p + 1)).toNat (s.get! (p + 2)).toNat (s.get! (p + 3)).toNat 3 128 191).2 = 1) := by unfold Lib.slowN; rw [if_neg hA, if_neg (by rw [G1.out]; omega), if_neg (by omega), if_pos (by rw [G2.out]; exact Or.inr hC2)]; exact rfl
            go_enter Try.func15, Try.ntmps15
            go_wp2
            refine wp_loop_rounds 1 ?_
            rw [rounds_succ]
            go_wp2
            go_ret
            exact ⟨ret_int (by rw [HD.out, E.out]; rfl), rfl⟩
          · have f2 : decide ((191 : Int) < ((s[p + 2]'hq2).toNat : Int)) = false := by simp; omega
            have E : Hid ((Lib.slowN (s.size - p) (s[p]'hp).toNat (s.get! (p + 1)).toNat (s.get! (p + 2)).toNat (s.get! (p + 3)).toNat 3 128 191).2 = 3) := by unfold Lib.slowN; rw [if_neg hA, if_neg (by rw [G1.out]; omega), if_neg (by omega), if_neg (by rw [G2.out]; omega), if_pos (by omega)]; exact rfl
            go_enter Try.func15, Try.ntmps15
            go_wp2
            refine wp_loop_rounds 2 ?_
            rw [rounds_succ]
            go_wp2
            rw [rounds_succ]
            go_wp2
            go_ret
            exact ⟨ret_int (by rw [HD.out, E.out]; rfl), rfl⟩

set_option maxRecDepth 100000 in
set_option maxHeartbeats 2000000 in
theorem width_ED (s : ByteArray) (p : Nat) (w : World) (hp : p < s.size) (hs : s.size ≤ 2097152) (h1 : 237 ≤ (s[p]'hp).toNat) (h2 : (s[p]'hp).toNat ≤ 237) :
    Calls Try.prog 15 #[.string s, .int .i64 p] w fun e w' => e = .returned (.int .i64 (Utf8.decode s p).2) ∧ w' = w := by
  have HD : Hid ((Utf8.decode s p).2 = (Lib.slowN (s.size - p) (s[p]'hp).toNat (s.get! (p + 1)).toNat (s.get! (p + 2)).toNat (s.get! (p + 3)).toNat 3 128 159).2) := by
    have h := Lib.slow_ED (s.size - p) (s[p]'hp).toNat (s.get! (p + 1)).toNat (s.get! (p + 2)).toNat (s.get! (p + 3)).toNat (by omega) (get_lt _ _) (get_lt _ _) (get_lt _ _) (by omega)
    rw [h, Lib.decode_at, get_byte s p hp]; exact rfl
  have a1 : decide ((194 : Int) ≤ ((s[p]'hp).toNat : Int)) = true := by simp; omega
  have a2 : decide (((s[p]'hp).toNat : Int) ≤ (223 : Int)) = false := by simp; omega
  have a3 : (((s[p]'hp).toNat : Int) == 224) = false := beq_eq_false_iff_ne.2 (by omega)
  have a4 : decide ((225 : Int) ≤ ((s[p]'hp).toNat : Int)) = true := by simp; omega
  have a5 : decide (((s[p]'hp).toNat : Int) ≤ (236 : Int)) = false := by simp; omega
  have a6 : (((s[p]'hp).toNat : Int) == 238) = false := beq_eq_false_iff_ne.2 (by omega)
  have a7 : (((s[p]'hp).toNat : Int) == 239) = false := beq_eq_false_iff_ne.2 (by omega)
  have a8 : (((s[p]'hp).toNat : Int) == 237) = true := beq_iff_eq.2 (by omega)
  have a9 : (((s[p]'hp).toNat : Int) == 240) = false := beq_eq_false_iff_ne.2 (by omega)
  have a10 : decide ((241 : Int) ≤ ((s[p]'hp).toNat : Int)) = false := by simp; omega
  have a12 : (((s[p]'hp).toNat : Int) == 244) = false := beq_eq_false_iff_ne.2 (by omega)
  by_cases hA : s.size - p < 3
  · have E : Hid ((Lib.slowN (s.size - p) (s[p]'hp).toNat (s.get! (p + 1)).toNat (s.get! (p + 2)).toNat (s.get! (p + 3)).toNat 3 128 159).2 = 1) := by unfold Lib.slowN; rw [if_pos hA]; exact rfl
    go_enter Try.func15, Try.ntmps15
    go_wp2
    go_ret
    exact ⟨ret_int (by rw [HD.out, E.out]; rfl), rfl⟩
  · have hq1 : p + 1 < s.size := by omega
    have G1 : Hid (s.get! (p + 1) = s[p + 1]'hq1) := get_byte s (p + 1) hq1
    by_cases hB : (s[p + 1]'hq1).toNat < 128
    · have c1 : decide (((s[p + 1]'hq1).toNat : Int) < 128) = true := by simp; omega
      have E : Hid ((Lib.slowN (s.size - p) (s[p]'hp).toNat (s.get! (p + 1)).toNat (s.get! (p + 2)).toNat (s.get! (p + 3)).toNat 3 128 159).2 = 1) := by unfold Lib.slowN; rw [if_neg hA, if_pos (by rw [G1.out]; exact Or.inl hB)]; exact rfl
      go_enter Try.func15, Try.ntmps15
      go_wp2
      go_ret
      exact ⟨ret_int (by rw [HD.out, E.out]; rfl), rfl⟩
    · have c1 : decide (((s[p + 1]'hq1).toNat : Int) < 128) = false := by simp; omega
      by_cases hC : 159 < (s[p + 1]'hq1).toNat
      · have c2 : decide ((159 : Int) < ((s[p + 1]'hq1).toNat : Int)) = true := by simp; omega
        have E : Hid ((Lib.slowN (s.size - p) (s[p]'hp).toNat (s.get! (p + 1)).toNat (s.get! (p + 2)).toNat (s.get! (p + 3)).toNat 3 128 159).2 = 1) := by unfold Lib.slowN; rw [if_neg hA, if_pos (by rw [G1.out]; exact Or.inr hC)]; exact rfl
        go_enter Try.func15, Try.ntmps15
        go_wp2
        go_ret
        exact ⟨ret_int (by rw [HD.out, E.out]; rfl), rfl⟩
      · have c2 : decide ((159 : Int) < ((s[p + 1]'hq1).toNat : Int)) = false := by simp; omega
        have hq2 : p + 2 < s.size := by omega
        have G2 : Hid (s.get! (p + 2) = s[p + 2]'hq2) := get_byte s (p + 2) hq2
        by_cases hB2 : (s[p + 2]'hq2).toNat < 128
        · have d2 : decide (((s[p + 2]'hq2).toNat : Int) < 128) = true := by simp; omega
          have E : Hid ((Lib.slowN (s.size - p) (s[p]'hp).toNat (s.get! (p + 1)).toNat (s.get! (p + 2)).toNat (s.get! (p + 3)).toNat 3 128 159).2 = 1) := by unfold Lib.slowN; rw [if_neg hA, if_neg (by rw [G1.out]; omega), if_neg (by omega), if_pos (by rw [G2.out]; exact Or.inl hB2)]; exact rfl
          go_enter Try.func15, Try.ntmps15
          go_wp2
          refine wp_loop_rounds 1 ?_
          rw [rounds_succ]
          go_wp2
          go_ret
          exact ⟨ret_int (by rw [HD.out, E.out]; rfl), rfl⟩
        · have d2 : decide (((s[p + 2]'hq2).toNat : Int) < 128) = false := by simp; omega
          by_cases hC2 : 191 < (s[p + 2]'hq2).toNat
          · have f2 : decide ((191 : Int) < ((s[p + 2]'hq2).toNat : Int)) = true := by simp; omega
            have E : Hid ((Lib.slowN (s.size - p) (s[p]'hp).toNat (s.get! (p + 1)).toNat (s.get! (p + 2)).toNat (s.get! (p + 3)).toNat 3 128 159).2 = 1) := by unfold Lib.slowN; rw [if_neg hA, if_neg (by rw [G1.out]; omega), if_neg (by omega), if_pos (by rw [G2.out]; exact Or.inr hC2)]; exact rfl
            go_enter Try.func15, Try.ntmps15
            go_wp2
            refine wp_loop_rounds 1 ?_
            rw [rounds_succ]
            go_wp2
            go_ret
            exact ⟨ret_int (by rw [HD.out, E.out]; rfl), rfl⟩
          · have f2 : decide ((191 : Int) < ((s[p + 2]'hq2).toNat : Int)) = false := by simp; omega
            have E : Hid ((Lib.slowN (s.size - p) (s[p]'hp).toNat (s.get! (p + 1)).toNat (s.get! (p + 2)).toNat (s.get! (p + 3)).toNat 3 128 159).2 = 3) := by unfold Lib.slowN; rw [if_neg hA, if_neg (by rw [G1.out]; omega), if_neg (by omega), if_neg (by rw [G2.out]; omega), if_pos (by omega)]; exact rfl
            go_enter Try.func15, Try.ntmps15
            go_wp2
            refine wp_loop_rounds 2 ?_
            rw [rounds_succ]
            go_wp2
            rw [rounds_succ]
            go_wp2
            go_ret
            exact ⟨ret_int (by rw [HD.out, E.out]; rfl), rfl⟩

set_option maxRecDepth 100000 in
set_option maxHeartbeats 2000000 in
theorem width_F0 (s : ByteArray) (p : Nat) (w : World) (hp : p < s.size) (hs : s.size ≤ 2097152) (h1 : 240 ≤ (s[p]'hp).toNat) (h2 : (s[p]'hp).toNat ≤ 240) :
    Calls Try.prog 15 #[.string s, .int .i64 p] w fun e w' => e = .returned (.int .i64 (Utf8.decode s p).2) ∧ w' = w := by
  have HD : Hid ((Utf8.decode s p).2 = (Lib.slowN (s.size - p) (s[p]'hp).toNat (s.get! (p + 1)).toNat (s.get! (p + 2)).toNat (s.get! (p + 3)).toNat 4 144 191).2) := by
    have h := Lib.slow_F0 (s.size - p) (s[p]'hp).toNat (s.get! (p + 1)).toNat (s.get! (p + 2)).toNat (s.get! (p + 3)).toNat (by omega) (get_lt _ _) (get_lt _ _) (get_lt _ _) (by omega)
    rw [h, Lib.decode_at, get_byte s p hp]; exact rfl
  have a1 : decide ((194 : Int) ≤ ((s[p]'hp).toNat : Int)) = true := by simp; omega
  have a2 : decide (((s[p]'hp).toNat : Int) ≤ (223 : Int)) = false := by simp; omega
  have a3 : (((s[p]'hp).toNat : Int) == 224) = false := beq_eq_false_iff_ne.2 (by omega)
  have a4 : decide ((225 : Int) ≤ ((s[p]'hp).toNat : Int)) = true := by simp; omega
  have a5 : decide (((s[p]'hp).toNat : Int) ≤ (236 : Int)) = false := by simp; omega
  have a6 : (((s[p]'hp).toNat : Int) == 238) = false := beq_eq_false_iff_ne.2 (by omega)
  have a7 : (((s[p]'hp).toNat : Int) == 239) = false := beq_eq_false_iff_ne.2 (by omega)
  have a8 : (((s[p]'hp).toNat : Int) == 237) = false := beq_eq_false_iff_ne.2 (by omega)
  have a9 : (((s[p]'hp).toNat : Int) == 240) = true := beq_iff_eq.2 (by omega)
  have a10 : decide ((241 : Int) ≤ ((s[p]'hp).toNat : Int)) = false := by simp; omega
  have a12 : (((s[p]'hp).toNat : Int) == 244) = false := beq_eq_false_iff_ne.2 (by omega)
  by_cases hA : s.size - p < 4
  · have E : Hid ((Lib.slowN (s.size - p) (s[p]'hp).toNat (s.get! (p + 1)).toNat (s.get! (p + 2)).toNat (s.get! (p + 3)).toNat 4 144 191).2 = 1) := by unfold Lib.slowN; rw [if_pos hA]; exact rfl
    go_enter Try.func15, Try.ntmps15
    go_wp2
    go_ret
    exact ⟨ret_int (by rw [HD.out, E.out]; rfl), rfl⟩
  · have hq1 : p + 1 < s.size := by omega
    have G1 : Hid (s.get! (p + 1) = s[p + 1]'hq1) := get_byte s (p + 1) hq1
    by_cases hB : (s[p + 1]'hq1).toNat < 144
    · have c1 : decide (((s[p + 1]'hq1).toNat : Int) < 144) = true := by simp; omega
      have E : Hid ((Lib.slowN (s.size - p) (s[p]'hp).toNat (s.get! (p + 1)).toNat (s.get! (p + 2)).toNat (s.get! (p + 3)).toNat 4 144 191).2 = 1) := by unfold Lib.slowN; rw [if_neg hA, if_pos (by rw [G1.out]; exact Or.inl hB)]; exact rfl
      go_enter Try.func15, Try.ntmps15
      go_wp2
      go_ret
      exact ⟨ret_int (by rw [HD.out, E.out]; rfl), rfl⟩
    · have c1 : decide (((s[p + 1]'hq1).toNat : Int) < 144) = false := by simp; omega
      by_cases hC : 191 < (s[p + 1]'hq1).toNat
      · have c2 : decide ((191 : Int) < ((s[p + 1]'hq1).toNat : Int)) = true := by simp; omega
        have E : Hid ((Lib.slowN (s.size - p) (s[p]'hp).toNat (s.get! (p + 1)).toNat (s.get! (p + 2)).toNat (s.get! (p + 3)).toNat 4 144 191).2 = 1) := by unfold Lib.slowN; rw [if_neg hA, if_pos (by rw [G1.out]; exact Or.inr hC)]; exact rfl
        go_enter Try.func15, Try.ntmps15
        go_wp2
        go_ret
        exact ⟨ret_int (by rw [HD.out, E.out]; rfl), rfl⟩
      · have c2 : decide ((191 : Int) < ((s[p + 1]'hq1).toNat : Int)) = false := by simp; omega
        have hq2 : p + 2 < s.size := by omega
        have G2 : Hid (s.get! (p + 2) = s[p + 2]'hq2) := get_byte s (p + 2) hq2
        by_cases hB2 : (s[p + 2]'hq2).toNat < 128
        · have d2 : decide (((s[p + 2]'hq2).toNat : Int) < 128) = true := by simp; omega
          have E : Hid ((Lib.slowN (s.size - p) (s[p]'hp).toNat (s.get! (p + 1)).toNat (s.get! (p + 2)).toNat (s.get! (p + 3)).toNat 4 144 191).2 = 1) := by unfold Lib.slowN; rw [if_neg hA, if_neg (by rw [G1.out]; omega), if_neg (by omega), if_pos (by rw [G2.out]; exact Or.inl hB2)]; exact rfl
          go_enter Try.func15, Try.ntmps15
          go_wp2
          refine wp_loop_rounds 1 ?_
          rw [rounds_succ]
          go_wp2
          go_ret
          exact ⟨ret_int (by rw [HD.out, E.out]; rfl), rfl⟩
        · have d2 : decide (((s[p + 2]'hq2).toNat : Int) < 128) = false := by simp; omega
          by_cases hC2 : 191 < (s[p + 2]'hq2).toNat
          · have f2 : decide ((191 : Int) < ((s[p + 2]'hq2).toNat : Int)) = true := by simp; omega
            have E : Hid ((Lib.slowN (s.size - p) (s[p]'hp).toNat (s.get! (p + 1)).toNat (s.get! (p + 2)).toNat (s.get! (p + 3)).toNat 4 144 191).2 = 1) := by unfold Lib.slowN; rw [if_neg hA, if_neg (by rw [G1.out]; omega), if_neg (by omega), if_pos (by rw [G2.out]; exact Or.inr hC2)]; exact rfl
            go_enter Try.func15, Try.ntmps15
            go_wp2
            refine wp_loop_rounds 1 ?_
            rw [rounds_succ]
            go_wp2
            go_ret
            exact ⟨ret_int (by rw [HD.out, E.out]; rfl), rfl⟩
          · have f2 : decide ((191 : Int) < ((s[p + 2]'hq2).toNat : Int)) = false := by simp; omega
            have hq3 : p + 3 < s.size := by omega
            have G3 : Hid (s.get! (p + 3) = s[p + 3]'hq3) := get_byte s (p + 3) hq3
            by_cases hB3 : (s[p + 3]'hq3).toNat < 128
            · have d3 : decide (((s[p + 3]'hq3).toNat : Int) < 128) = true := by simp; omega
              have E : Hid ((Lib.slowN (s.size - p) (s[p]'hp).toNat (s.get! (p + 1)).toNat (s.get! (p + 2)).toNat (s.get! (p + 3)).toNat 4 144 191).2 = 1) := by unfold Lib.slowN; rw [if_neg hA, if_neg (by rw [G1.out]; omega), if_neg (by omega), if_neg (by rw [G2.out]; omega), if_neg (by omega), if_pos (by rw [G3.out]; exact Or.inl hB3)]; exact rfl
              go_enter Try.func15, Try.ntmps15
              go_wp2
              refine wp_loop_rounds 2 ?_
              rw [rounds_succ]
              go_wp2
              rw [rounds_succ]
              go_wp2
              go_ret
              exact ⟨ret_int (by rw [HD.out, E.out]; rfl), rfl⟩
            · have d3 : decide (((s[p + 3]'hq3).toNat : Int) < 128) = false := by simp; omega
              by_cases hC3 : 191 < (s[p + 3]'hq3).toNat
              · have f3 : decide ((191 : Int) < ((s[p + 3]'hq3).toNat : Int)) = true := by simp; omega
                have E : Hid ((Lib.slowN (s.size - p) (s[p]'hp).toNat (s.get! (p + 1)).toNat (s.get! (p + 2)).toNat (s.get! (p + 3)).toNat 4 144 191).2 = 1) := by unfold Lib.slowN; rw [if_neg hA, if_neg (by rw [G1.out]; omega), if_neg (by omega), if_neg (by rw [G2.out]; omega), if_neg (by omega), if_pos (by rw [G3.out]; exact Or.inr hC3)]; exact rfl
                go_enter Try.func15, Try.ntmps15
                go_wp2
                refine wp_loop_rounds 2 ?_
                rw [rounds_succ]
                go_wp2
                rw [rounds_succ]
                go_wp2
                go_ret
                exact ⟨ret_int (by rw [HD.out, E.out]; rfl), rfl⟩
              · have f3 : decide ((191 : Int) < ((s[p + 3]'hq3).toNat : Int)) = false := by simp; omega
                have E : Hid ((Lib.slowN (s.size - p) (s[p]'hp).toNat (s.get! (p + 1)).toNat (s.get! (p + 2)).toNat (s.get! (p + 3)).toNat 4 144 191).2 = 4) := by unfold Lib.slowN; rw [if_neg hA, if_neg (by rw [G1.out]; omega), if_neg (by omega), if_neg (by rw [G2.out]; omega), if_neg (by omega), if_neg (by rw [G3.out]; omega)]; exact rfl
                go_enter Try.func15, Try.ntmps15
                go_wp2
                refine wp_loop_rounds 3 ?_
                rw [rounds_succ]
                go_wp2
                rw [rounds_succ]
                go_wp2
                rw [rounds_succ]
                go_wp2
                go_ret
                exact ⟨ret_int (by rw [HD.out, E.out]; rfl), rfl⟩

set_option maxRecDepth 100000 in
set_option maxHeartbeats 2000000 in
theorem width_F1 (s : ByteArray) (p : Nat) (w : World) (hp : p < s.size) (hs : s.size ≤ 2097152) (h1 : 241 ≤ (s[p]'hp).toNat) (h2 : (s[p]'hp).toNat ≤ 243) :
    Calls Try.prog 15 #[.string s, .int .i64 p] w fun e w' => e = .returned (.int .i64 (Utf8.decode s p).2) ∧ w' = w := by
  have HD : Hid ((Utf8.decode s p).2 = (Lib.slowN (s.size - p) (s[p]'hp).toNat (s.get! (p + 1)).toNat (s.get! (p + 2)).toNat (s.get! (p + 3)).toNat 4 128 191).2) := by
    have h := Lib.slow_F1 (s.size - p) (s[p]'hp).toNat (s.get! (p + 1)).toNat (s.get! (p + 2)).toNat (s.get! (p + 3)).toNat (by omega) (get_lt _ _) (get_lt _ _) (get_lt _ _) ⟨by omega, by omega⟩
    rw [h, Lib.decode_at, get_byte s p hp]; exact rfl
  have a1 : decide ((194 : Int) ≤ ((s[p]'hp).toNat : Int)) = true := by simp; omega
  have a2 : decide (((s[p]'hp).toNat : Int) ≤ (223 : Int)) = false := by simp; omega
  have a3 : (((s[p]'hp).toNat : Int) == 224) = false := beq_eq_false_iff_ne.2 (by omega)
  have a4 : decide ((225 : Int) ≤ ((s[p]'hp).toNat : Int)) = true := by simp; omega
  have a5 : decide (((s[p]'hp).toNat : Int) ≤ (236 : Int)) = false := by simp; omega
  have a6 : (((s[p]'hp).toNat : Int) == 238) = false := beq_eq_false_iff_ne.2 (by omega)
  have a7 : (((s[p]'hp).toNat : Int) == 239) = false := beq_eq_false_iff_ne.2 (by omega)
  have a8 : (((s[p]'hp).toNat : Int) == 237) = false := beq_eq_false_iff_ne.2 (by omega)
  have a9 : (((s[p]'hp).toNat : Int) == 240) = false := beq_eq_false_iff_ne.2 (by omega)
  have a10 : decide ((241 : Int) ≤ ((s[p]'hp).toNat : Int)) = true := by simp; omega
  have a11 : decide (((s[p]'hp).toNat : Int) ≤ (243 : Int)) = true := by simp; omega
  have a12 : (((s[p]'hp).toNat : Int) == 244) = false := beq_eq_false_iff_ne.2 (by omega)
  by_cases hA : s.size - p < 4
  · have E : Hid ((Lib.slowN (s.size - p) (s[p]'hp).toNat (s.get! (p + 1)).toNat (s.get! (p + 2)).toNat (s.get! (p + 3)).toNat 4 128 191).2 = 1) := by unfold Lib.slowN; rw [if_pos hA]; exact rfl
    go_enter Try.func15, Try.ntmps15
    go_wp2
    go_ret
    exact ⟨ret_int (by rw [HD.out, E.out]; rfl), rfl⟩
  · have hq1 : p + 1 < s.size := by omega
    have G1 : Hid (s.get! (p + 1) = s[p + 1]'hq1) := get_byte s (p + 1) hq1
    by_cases hB : (s[p + 1]'hq1).toNat < 128
    · have c1 : decide (((s[p + 1]'hq1).toNat : Int) < 128) = true := by simp; omega
      have E : Hid ((Lib.slowN (s.size - p) (s[p]'hp).toNat (s.get! (p + 1)).toNat (s.get! (p + 2)).toNat (s.get! (p + 3)).toNat 4 128 191).2 = 1) := by unfold Lib.slowN; rw [if_neg hA, if_pos (by rw [G1.out]; exact Or.inl hB)]; exact rfl
      go_enter Try.func15, Try.ntmps15
      go_wp2
      go_ret
      exact ⟨ret_int (by rw [HD.out, E.out]; rfl), rfl⟩
    · have c1 : decide (((s[p + 1]'hq1).toNat : Int) < 128) = false := by simp; omega
      by_cases hC : 191 < (s[p + 1]'hq1).toNat
      · have c2 : decide ((191 : Int) < ((s[p + 1]'hq1).toNat : Int)) = true := by simp; omega
        have E : Hid ((Lib.slowN (s.size - p) (s[p]'hp).toNat (s.get! (p + 1)).toNat (s.get! (p + 2)).toNat (s.get! (p + 3)).toNat 4 128 191).2 = 1) := by unfold Lib.slowN; rw [if_neg hA, if_pos (by rw [G1.out]; exact Or.inr hC)]; exact rfl
        go_enter Try.func15, Try.ntmps15
        go_wp2
        go_ret
        exact ⟨ret_int (by rw [HD.out, E.out]; rfl), rfl⟩
      · have c2 : decide ((191 : Int) < ((s[p + 1]'hq1).toNat : Int)) = false := by simp; omega
        have hq2 : p + 2 < s.size := by omega
        have G2 : Hid (s.get! (p + 2) = s[p + 2]'hq2) := get_byte s (p + 2) hq2
        by_cases hB2 : (s[p + 2]'hq2).toNat < 128
        · have d2 : decide (((s[p + 2]'hq2).toNat : Int) < 128) = true := by simp; omega
          have E : Hid ((Lib.slowN (s.size - p) (s[p]'hp).toNat (s.get! (p + 1)).toNat (s.get! (p + 2)).toNat (s.get! (p + 3)).toNat 4 128 191).2 = 1) := by unfold Lib.slowN; rw [if_neg hA, if_neg (by rw [G1.out]; omega), if_neg (by omega), if_pos (by rw [G2.out]; exact Or.inl hB2)]; exact rfl
          go_enter Try.func15, Try.ntmps15
          go_wp2
          refine wp_loop_rounds 1 ?_
          rw [rounds_succ]
          go_wp2
          go_ret
          exact ⟨ret_int (by rw [HD.out, E.out]; rfl), rfl⟩
        · have d2 : decide (((s[p + 2]'hq2).toNat : Int) < 128) = false := by simp; omega
          by_cases hC2 : 191 < (s[p + 2]'hq2).toNat
          · have f2 : decide ((191 : Int) < ((s[p + 2]'hq2).toNat : Int)) = true := by simp; omega
            have E : Hid ((Lib.slowN (s.size - p) (s[p]'hp).toNat (s.get! (p + 1)).toNat (s.get! (p + 2)).toNat (s.get! (p + 3)).toNat 4 128 191).2 = 1) := by unfold Lib.slowN; rw [if_neg hA, if_neg (by rw [G1.out]; omega), if_neg (by omega), if_pos (by rw [G2.out]; exact Or.inr hC2)]; exact rfl
            go_enter Try.func15, Try.ntmps15
            go_wp2
            refine wp_loop_rounds 1 ?_
            rw [rounds_succ]
            go_wp2
            go_ret
            exact ⟨ret_int (by rw [HD.out, E.out]; rfl), rfl⟩
          · have f2 : decide ((191 : Int) < ((s[p + 2]'hq2).toNat : Int)) = false := by simp; omega
            have hq3 : p + 3 < s.size := by omega
            have G3 : Hid (s.get! (p + 3) = s[p + 3]'hq3) := get_byte s (p + 3) hq3
            by_cases hB3 : (s[p + 3]'hq3).toNat < 128
            · have d3 : decide (((s[p + 3]'hq3).toNat : Int) < 128) = true := by simp; omega
              have E : Hid ((Lib.slowN (s.size - p) (s[p]'hp).toNat (s.get! (p + 1)).toNat (s.get! (p + 2)).toNat (s.get! (p + 3)).toNat 4 128 191).2 = 1) := by unfold Lib.slowN; rw [if_neg hA, if_neg (by rw [G1.out]; omega), if_neg (by omega), if_neg (by rw [G2.out]; omega), if_neg (by omega), if_pos (by rw [G3.out]; exact Or.inl hB3)]; exact rfl
              go_enter Try.func15, Try.ntmps15
              go_wp2
              refine wp_loop_rounds 2 ?_
              rw [rounds_succ]
              go_wp2
              rw [rounds_succ]
              go_wp2
              go_ret
              exact ⟨ret_int (by rw [HD.out, E.out]; rfl), rfl⟩
            · have d3 : decide (((s[p + 3]'hq3).toNat : Int) < 128) = false := by simp; omega
              by_cases hC3 : 191 < (s[p + 3]'hq3).toNat
              · have f3 : decide ((191 : Int) < ((s[p + 3]'hq3).toNat : Int)) = true := by simp; omega
                have E : Hid ((Lib.slowN (s.size - p) (s[p]'hp).toNat (s.get! (p + 1)).toNat (s.get! (p + 2)).toNat (s.get! (p + 3)).toNat 4 128 191).2 = 1) := by unfold Lib.slowN; rw [if_neg hA, if_neg (by rw [G1.out]; omega), if_neg (by omega), if_neg (by rw [G2.out]; omega), if_neg (by omega), if_pos (by rw [G3.out]; exact Or.inr hC3)]; exact rfl
                go_enter Try.func15, Try.ntmps15
                go_wp2
                refine wp_loop_rounds 2 ?_
                rw [rounds_succ]
                go_wp2
                rw [rounds_succ]
                go_wp2
                go_ret
                exact ⟨ret_int (by rw [HD.out, E.out]; rfl), rfl⟩
              · have f3 : decide ((191 : Int) < ((s[p + 3]'hq3).toNat : Int)) = false := by simp; omega
                have E : Hid ((Lib.slowN (s.size - p) (s[p]'hp).toNat (s.get! (p + 1)).toNat (s.get! (p + 2)).toNat (s.get! (p + 3)).toNat 4 128 191).2 = 4) := by unfold Lib.slowN; rw [if_neg hA, if_neg (by rw [G1.out]; omega), if_neg (by omega), if_neg (by rw [G2.out]; omega), if_neg (by omega), if_neg (by rw [G3.out]; omega)]; exact rfl
                go_enter Try.func15, Try.ntmps15
                go_wp2
                refine wp_loop_rounds 3 ?_
                rw [rounds_succ]
                go_wp2
                rw [rounds_succ]
                go_wp2
                rw [rounds_succ]
                go_wp2
                go_ret
                exact ⟨ret_int (by rw [HD.out, E.out]; rfl), rfl⟩

set_option maxRecDepth 100000 in
set_option maxHeartbeats 2000000 in
theorem width_F4 (s : ByteArray) (p : Nat) (w : World) (hp : p < s.size) (hs : s.size ≤ 2097152) (h1 : 244 ≤ (s[p]'hp).toNat) (h2 : (s[p]'hp).toNat ≤ 244) :
    Calls Try.prog 15 #[.string s, .int .i64 p] w fun e w' => e = .returned (.int .i64 (Utf8.decode s p).2) ∧ w' = w := by
  have HD : Hid ((Utf8.decode s p).2 = (Lib.slowN (s.size - p) (s[p]'hp).toNat (s.get! (p + 1)).toNat (s.get! (p + 2)).toNat (s.get! (p + 3)).toNat 4 128 143).2) := by
    have h := Lib.slow_F4 (s.size - p) (s[p]'hp).toNat (s.get! (p + 1)).toNat (s.get! (p + 2)).toNat (s.get! (p + 3)).toNat (by omega) (get_lt _ _) (get_lt _ _) (get_lt _ _) (by omega)
    rw [h, Lib.decode_at, get_byte s p hp]; exact rfl
  have a1 : decide ((194 : Int) ≤ ((s[p]'hp).toNat : Int)) = true := by simp; omega
  have a2 : decide (((s[p]'hp).toNat : Int) ≤ (223 : Int)) = false := by simp; omega
  have a3 : (((s[p]'hp).toNat : Int) == 224) = false := beq_eq_false_iff_ne.2 (by omega)
  have a4 : decide ((225 : Int) ≤ ((s[p]'hp).toNat : Int)) = true := by simp; omega
  have a5 : decide (((s[p]'hp).toNat : Int) ≤ (236 : Int)) = false := by simp; omega
  have a6 : (((s[p]'hp).toNat : Int) == 238) = false := beq_eq_false_iff_ne.2 (by omega)
  have a7 : (((s[p]'hp).toNat : Int) == 239) = false := beq_eq_false_iff_ne.2 (by omega)
  have a8 : (((s[p]'hp).toNat : Int) == 237) = false := beq_eq_false_iff_ne.2 (by omega)
  have a9 : (((s[p]'hp).toNat : Int) == 240) = false := beq_eq_false_iff_ne.2 (by omega)
  have a10 : decide ((241 : Int) ≤ ((s[p]'hp).toNat : Int)) = true := by simp; omega
  have a11 : decide (((s[p]'hp).toNat : Int) ≤ (243 : Int)) = false := by simp; omega
  have a12 : (((s[p]'hp).toNat : Int) == 244) = true := beq_iff_eq.2 (by omega)
  by_cases hA : s.size - p < 4
  · have E : Hid ((Lib.slowN (s.size - p) (s[p]'hp).toNat (s.get! (p + 1)).toNat (s.get! (p + 2)).toNat (s.get! (p + 3)).toNat 4 128 143).2 = 1) := by unfold Lib.slowN; rw [if_pos hA]; exact rfl
    go_enter Try.func15, Try.ntmps15
    go_wp2
    go_ret
    exact ⟨ret_int (by rw [HD.out, E.out]; rfl), rfl⟩
  · have hq1 : p + 1 < s.size := by omega
    have G1 : Hid (s.get! (p + 1) = s[p + 1]'hq1) := get_byte s (p + 1) hq1
    by_cases hB : (s[p + 1]'hq1).toNat < 128
    · have c1 : decide (((s[p + 1]'hq1).toNat : Int) < 128) = true := by simp; omega
      have E : Hid ((Lib.slowN (s.size - p) (s[p]'hp).toNat (s.get! (p + 1)).toNat (s.get! (p + 2)).toNat (s.get! (p + 3)).toNat 4 128 143).2 = 1) := by unfold Lib.slowN; rw [if_neg hA, if_pos (by rw [G1.out]; exact Or.inl hB)]; exact rfl
      go_enter Try.func15, Try.ntmps15
      go_wp2
      go_ret
      exact ⟨ret_int (by rw [HD.out, E.out]; rfl), rfl⟩
    · have c1 : decide (((s[p + 1]'hq1).toNat : Int) < 128) = false := by simp; omega
      by_cases hC : 143 < (s[p + 1]'hq1).toNat
      · have c2 : decide ((143 : Int) < ((s[p + 1]'hq1).toNat : Int)) = true := by simp; omega
        have E : Hid ((Lib.slowN (s.size - p) (s[p]'hp).toNat (s.get! (p + 1)).toNat (s.get! (p + 2)).toNat (s.get! (p + 3)).toNat 4 128 143).2 = 1) := by unfold Lib.slowN; rw [if_neg hA, if_pos (by rw [G1.out]; exact Or.inr hC)]; exact rfl
        go_enter Try.func15, Try.ntmps15
        go_wp2
        go_ret
        exact ⟨ret_int (by rw [HD.out, E.out]; rfl), rfl⟩
      · have c2 : decide ((143 : Int) < ((s[p + 1]'hq1).toNat : Int)) = false := by simp; omega
        have hq2 : p + 2 < s.size := by omega
        have G2 : Hid (s.get! (p + 2) = s[p + 2]'hq2) := get_byte s (p + 2) hq2
        by_cases hB2 : (s[p + 2]'hq2).toNat < 128
        · have d2 : decide (((s[p + 2]'hq2).toNat : Int) < 128) = true := by simp; omega
          have E : Hid ((Lib.slowN (s.size - p) (s[p]'hp).toNat (s.get! (p + 1)).toNat (s.get! (p + 2)).toNat (s.get! (p + 3)).toNat 4 128 143).2 = 1) := by unfold Lib.slowN; rw [if_neg hA, if_neg (by rw [G1.out]; omega), if_neg (by omega), if_pos (by rw [G2.out]; exact Or.inl hB2)]; exact rfl
          go_enter Try.func15, Try.ntmps15
          go_wp2
          refine wp_loop_rounds 1 ?_
          rw [rounds_succ]
          go_wp2
          go_ret
          exact ⟨ret_int (by rw [HD.out, E.out]; rfl), rfl⟩
        · have d2 : decide (((s[p + 2]'hq2).toNat : Int) < 128) = false := by simp; omega
          by_cases hC2 : 191 < (s[p + 2]'hq2).toNat
          · have f2 : decide ((191 : Int) < ((s[p + 2]'hq2).toNat : Int)) = true := by simp; omega
            have E : Hid ((Lib.slowN (s.size - p) (s[p]'hp).toNat (s.get! (p + 1)).toNat (s.get! (p + 2)).toNat (s.get! (p + 3)).toNat 4 128 143).2 = 1) := by unfold Lib.slowN; rw [if_neg hA, if_neg (by rw [G1.out]; omega), if_neg (by omega), if_pos (by rw [G2.out]; exact Or.inr hC2)]; exact rfl
            go_enter Try.func15, Try.ntmps15
            go_wp2
            refine wp_loop_rounds 1 ?_
            rw [rounds_succ]
            go_wp2
            go_ret
            exact ⟨ret_int (by rw [HD.out, E.out]; rfl), rfl⟩
          · have f2 : decide ((191 : Int) < ((s[p + 2]'hq2).toNat : Int)) = false := by simp; omega
            have hq3 : p + 3 < s.size := by omega
            have G3 : Hid (s.get! (p + 3) = s[p + 3]'hq3) := get_byte s (p + 3) hq3
            by_cases hB3 : (s[p + 3]'hq3).toNat < 128
            · have d3 : decide (((s[p + 3]'hq3).toNat : Int) < 128) = true := by simp; omega
              have E : Hid ((Lib.slowN (s.size - p) (s[p]'hp).toNat (s.get! (p + 1)).toNat (s.get! (p + 2)).toNat (s.get! (p + 3)).toNat 4 128 143).2 = 1) := by unfold Lib.slowN; rw [if_neg hA, if_neg (by rw [G1.out]; omega), if_neg (by omega), if_neg (by rw [G2.out]; omega), if_neg (by omega), if_pos (by rw [G3.out]; exact Or.inl hB3)]; exact rfl
              go_enter Try.func15, Try.ntmps15
              go_wp2
              refine wp_loop_rounds 2 ?_
              rw [rounds_succ]
              go_wp2
              rw [rounds_succ]
              go_wp2
              go_ret
              exact ⟨ret_int (by rw [HD.out, E.out]; rfl), rfl⟩
            · have d3 : decide (((s[p + 3]'hq3).toNat : Int) < 128) = false := by simp; omega
              by_cases hC3 : 191 < (s[p + 3]'hq3).toNat
              · have f3 : decide ((191 : Int) < ((s[p + 3]'hq3).toNat : Int)) = true := by simp; omega
                have E : Hid ((Lib.slowN (s.size - p) (s[p]'hp).toNat (s.get! (p + 1)).toNat (s.get! (p + 2)).toNat (s.get! (p + 3)).toNat 4 128 143).2 = 1) := by unfold Lib.slowN; rw [if_neg hA, if_neg (by rw [G1.out]; omega), if_neg (by omega), if_neg (by rw [G2.out]; omega), if_neg (by omega), if_pos (by rw [G3.out]; exact Or.inr hC3)]; exact rfl
                go_enter Try.func15, Try.ntmps15
                go_wp2
                refine wp_loop_rounds 2 ?_
                rw [rounds_succ]
                go_wp2
                rw [rounds_succ]
                go_wp2
                go_ret
                exact ⟨ret_int (by rw [HD.out, E.out]; rfl), rfl⟩
              · have f3 : decide ((191 : Int) < ((s[p + 3]'hq3).toNat : Int)) = false := by simp; omega
                have E : Hid ((Lib.slowN (s.size - p) (s[p]'hp).toNat (s.get! (p + 1)).toNat (s.get! (p + 2)).toNat (s.get! (p + 3)).toNat 4 128 143).2 = 4) := by unfold Lib.slowN; rw [if_neg hA, if_neg (by rw [G1.out]; omega), if_neg (by omega), if_neg (by rw [G2.out]; omega), if_neg (by omega), if_neg (by rw [G3.out]; omega)]; exact rfl
                go_enter Try.func15, Try.ntmps15
                go_wp2
                refine wp_loop_rounds 3 ?_
                rw [rounds_succ]
                go_wp2
                rw [rounds_succ]
                go_wp2
                rw [rounds_succ]
                go_wp2
                go_ret
                exact ⟨ret_int (by rw [HD.out, E.out]; rfl), rfl⟩

set_option maxRecDepth 100000 in
theorem width_low (s : ByteArray) (p : Nat) (w : World) (hp : p < s.size) (_hs : s.size ≤ 2097152) (h1 : 128 ≤ (s[p]'hp).toNat) (h2 : (s[p]'hp).toNat ≤ 193) :
    Calls Try.prog 15 #[.string s, .int .i64 p] w fun e w' => e = .returned (.int .i64 (Utf8.decode s p).2) ∧ w' = w := by
  have HD : Hid ((Utf8.decode s p).2 = 1) := by
    show (Utf8.decode s p).2 = _
    rw [Lib.decode_at, get_byte s p hp]
    refine congrArg Prod.snd (Lib.bad_eq _ _ _ _ _ (by omega) ?_)
    unfold Lib.firstT
    repeat' split
    all_goals first | rfl | omega
  have a1 : decide ((194 : Int) ≤ ((s[p]'hp).toNat : Int)) = false := by simp; omega
  have a3 : (((s[p]'hp).toNat : Int) == 224) = false := beq_eq_false_iff_ne.2 (by omega)
  have a4 : decide ((225 : Int) ≤ ((s[p]'hp).toNat : Int)) = false := by simp; omega
  have a6 : (((s[p]'hp).toNat : Int) == 238) = false := beq_eq_false_iff_ne.2 (by omega)
  have a7 : (((s[p]'hp).toNat : Int) == 239) = false := beq_eq_false_iff_ne.2 (by omega)
  have a8 : (((s[p]'hp).toNat : Int) == 237) = false := beq_eq_false_iff_ne.2 (by omega)
  have a9 : (((s[p]'hp).toNat : Int) == 240) = false := beq_eq_false_iff_ne.2 (by omega)
  have a10 : decide ((241 : Int) ≤ ((s[p]'hp).toNat : Int)) = false := by simp; omega
  have a12 : (((s[p]'hp).toNat : Int) == 244) = false := beq_eq_false_iff_ne.2 (by omega)
  go_enter Try.func15, Try.ntmps15
  go_wp2
  go_ret
  exact ⟨ret_int (by rw [HD.out]; rfl), rfl⟩

set_option maxRecDepth 100000 in
theorem width_high (s : ByteArray) (p : Nat) (w : World) (hp : p < s.size) (_hs : s.size ≤ 2097152) (h1 : 245 ≤ (s[p]'hp).toNat) (h2 : (s[p]'hp).toNat ≤ 255) :
    Calls Try.prog 15 #[.string s, .int .i64 p] w fun e w' => e = .returned (.int .i64 (Utf8.decode s p).2) ∧ w' = w := by
  have HD : Hid ((Utf8.decode s p).2 = 1) := by
    show (Utf8.decode s p).2 = _
    rw [Lib.decode_at, get_byte s p hp]
    refine congrArg Prod.snd (Lib.bad_eq _ _ _ _ _ (by omega) ?_)
    unfold Lib.firstT
    repeat' split
    all_goals first | rfl | omega
  have a1 : decide ((194 : Int) ≤ ((s[p]'hp).toNat : Int)) = true := by simp; omega
  have a2 : decide (((s[p]'hp).toNat : Int) ≤ (223 : Int)) = false := by simp; omega
  have a3 : (((s[p]'hp).toNat : Int) == 224) = false := beq_eq_false_iff_ne.2 (by omega)
  have a4 : decide ((225 : Int) ≤ ((s[p]'hp).toNat : Int)) = true := by simp; omega
  have a5 : decide (((s[p]'hp).toNat : Int) ≤ (236 : Int)) = false := by simp; omega
  have a6 : (((s[p]'hp).toNat : Int) == 238) = false := beq_eq_false_iff_ne.2 (by omega)
  have a7 : (((s[p]'hp).toNat : Int) == 239) = false := beq_eq_false_iff_ne.2 (by omega)
  have a8 : (((s[p]'hp).toNat : Int) == 237) = false := beq_eq_false_iff_ne.2 (by omega)
  have a9 : (((s[p]'hp).toNat : Int) == 240) = false := beq_eq_false_iff_ne.2 (by omega)
  have a10 : decide ((241 : Int) ≤ ((s[p]'hp).toNat : Int)) = true := by simp; omega
  have a11 : decide (((s[p]'hp).toNat : Int) ≤ (243 : Int)) = false := by simp; omega
  have a12 : (((s[p]'hp).toNat : Int) == 244) = false := beq_eq_false_iff_ne.2 (by omega)
  go_enter Try.func15, Try.ntmps15
  go_wp2
  go_ret
  exact ⟨ret_int (by rw [HD.out]; rfl), rfl⟩

set_option maxRecDepth 100000 in
theorem width_ascii (s : ByteArray) (p : Nat) (w : World) (hp : p < s.size) (_hs : s.size ≤ 2097152) (h : (s[p]'hp).toNat < 128) :
    Calls Try.prog 15 #[.string s, .int .i64 p] w fun e w' => e = .returned (.int .i64 (Utf8.decode s p).2) ∧ w' = w := by
  have HD : Hid ((Utf8.decode s p).2 = 1) := by rw [decode_ascii s p hp h]; exact rfl
  go_enter Try.func15, Try.ntmps15
  go_wp2
  go_ret
  exact ⟨ret_int (by rw [HD.out]; rfl), rfl⟩

/-- zzCharWidth. -/
theorem width_any (s : ByteArray) (p : Nat) (w : World) (hp : p < s.size) (hs : s.size ≤ 2097152) :
    Calls Try.prog 15 #[.string s, .int .i64 p] w fun e w' => e = .returned (.int .i64 (Utf8.decode s p).2) ∧ w' = w := by
  have hb : (s[p]'hp).toNat < 256 := UInt8.toNat_lt _
  rcases (show (s[p]'hp).toNat < 128 ∨ (128 ≤ (s[p]'hp).toNat ∧ (s[p]'hp).toNat ≤ 193) ∨ (245 ≤ (s[p]'hp).toNat ∧ (s[p]'hp).toNat ≤ 255) ∨ (194 ≤ (s[p]'hp).toNat ∧ (s[p]'hp).toNat ≤ 223) ∨ (224 ≤ (s[p]'hp).toNat ∧ (s[p]'hp).toNat ≤ 224) ∨ (225 ≤ (s[p]'hp).toNat ∧ (s[p]'hp).toNat ≤ 236) ∨ (238 ≤ (s[p]'hp).toNat ∧ (s[p]'hp).toNat ≤ 238) ∨ (239 ≤ (s[p]'hp).toNat ∧ (s[p]'hp).toNat ≤ 239) ∨ (237 ≤ (s[p]'hp).toNat ∧ (s[p]'hp).toNat ≤ 237) ∨ (240 ≤ (s[p]'hp).toNat ∧ (s[p]'hp).toNat ≤ 240) ∨ (241 ≤ (s[p]'hp).toNat ∧ (s[p]'hp).toNat ≤ 243) ∨ (244 ≤ (s[p]'hp).toNat ∧ (s[p]'hp).toNat ≤ 244) by omega) with c | c | c | c | c | c | c | c | c | c | c | c
  · exact width_ascii s p w hp hs c
  · exact width_low s p w hp hs c.1 c.2
  · exact width_high s p w hp hs c.1 c.2
  · exact width_C2 s p w hp hs c.1 c.2
  · exact width_E0 s p w hp hs c.1 c.2
  · exact width_E1 s p w hp hs c.1 c.2
  · exact width_EE s p w hp hs c.1 c.2
  · exact width_EF s p w hp hs c.1 c.2
  · exact width_ED s p w hp hs c.1 c.2
  · exact width_F0 s p w hp hs c.1 c.2
  · exact width_F1 s p w hp hs c.1 c.2
  · exact width_F4 s p w hp hs c.1 c.2
end Go.Proofs.Qxb6619358a

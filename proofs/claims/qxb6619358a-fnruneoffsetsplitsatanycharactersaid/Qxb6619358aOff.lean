/-
  Stepping over characters: the plain function, its laws, and the walks of runeOffset (fn 14) and zzCharOffset (fn 12).
-/
import Derived.Test.Qxb6619358aWidth
import Derived.WalkSpells
namespace Go.Proofs.Qxb6619358a
open Go.RowKit

namespace Ro
def wd (s : ByteArray) (p : Nat) : Nat := (Utf8.decode s p).2

theorem wd_pos (s : ByteArray) (p : Nat) (h : p < s.size) : 1 ≤ wd s p := by
  unfold wd
  by_cases ha : (s[p]'h).toNat < 128
  · rw [decode_ascii s p h ha]; exact Nat.le_refl _
  · exact (decode_high s p h (by omega)).2

theorem decodeN_le (n b0 b1 b2 b3 : Nat) (hn : 1 ≤ n) : (Lib.decodeN n b0 b1 b2 b3).2 ≤ n := by
  unfold Lib.decodeN
  split
  · exact hn
  · split
    · split
      · show 2 ≤ n; omega
      · exact hn
    · split
      · split
        · show 3 ≤ n; omega
        · exact hn
      · split
        · split
          · show 4 ≤ n; omega
          · exact hn
        · exact hn

theorem wd_le (s : ByteArray) (p : Nat) (h : p < s.size) : p + wd s p ≤ s.size := by
  unfold wd
  rw [Lib.decode_at]
  have := decodeN_le (s.size - p) (s.get! p).toNat (s.get! (p + 1)).toNat (s.get! (p + 2)).toNat (s.get! (p + 3)).toNat (by omega)
  omega

/-- Where j characters further on lies. -/
def off (s : ByteArray) : Nat → Nat → Nat
  | 0, p => p
  | j + 1, p => if p < s.size then off s j (p + wd s p) else p

theorem off_end (s : ByteArray) : ∀ (j : Nat) {p : Nat}, s.size ≤ p → off s j p = p
  | 0, _, _ => rfl
  | j + 1, p, h => by simp only [off]; rw [if_neg (by omega)]
theorem off_step (s : ByteArray) (j : Nat) {p : Nat} (h : p < s.size) : off s (j + 1) p = off s j (p + wd s p) := by
  simp only [off]; rw [if_pos h]
theorem off_le (s : ByteArray) : ∀ (j : Nat) {p : Nat}, p ≤ s.size → off s j p ≤ s.size
  | 0, _, h => h
  | j + 1, p, h => by
    simp only [off]; split
    · exact off_le s j (wd_le s p (by omega))
    · exact h
theorem off_add (s : ByteArray) (m : Nat) : ∀ (j p : Nat), off s (j + m) p = off s m (off s j p)
  | 0, p => by rw [Nat.zero_add]; rfl
  | j + 1, p => by
    rw [show j + 1 + m = (j + m) + 1 from by omega]
    by_cases h : p < s.size
    · rw [off_step s _ h, off_step s _ h]; exact off_add s m j _
    · rw [off_end s _ (by omega), off_end s (j + 1) (by omega), off_end s m (by omega)]

theorem get_out (s : ByteArray) (i : Nat) (h : s.size ≤ i) : s.get! i = 0 := by
  cases s with
  | mk d =>
    show d[i]! = 0
    rw [getElem!_neg]
    · rfl
    · exact Nat.not_lt.2 h
theorem get_cut (s : ByteArray) (k i : Nat) (hk : k ≤ s.size) : (s.extract k s.size).get! i = s.get! (k + i) := by
  rcases Nat.lt_or_ge i (s.size - k) with h | h
  · have h1 : i < (s.extract k s.size).size := by rw [ByteArray.size_extract]; omega
    rw [get_byte _ _ h1, get_byte s (k + i) (by omega)]
    exact ByteArray.getElem_extract ..
  · rw [get_out _ _ (by rw [ByteArray.size_extract]; omega), get_out _ _ (by omega)]
theorem wd_cut (s : ByteArray) (k p : Nat) (hk : k ≤ s.size) : wd (s.extract k s.size) p = wd s (k + p) := by
  unfold wd
  rw [Lib.decode_at, Lib.decode_at, get_cut s k _ hk, get_cut s k _ hk, get_cut s k _ hk, get_cut s k _ hk]
  rw [show (s.extract k s.size).size - p = s.size - (k + p) from by rw [ByteArray.size_extract]; omega]
  rw [show k + (p + 1) = k + p + 1 from by omega, show k + (p + 2) = k + p + 2 from by omega, show k + (p + 3) = k + p + 3 from by omega]
theorem off_cut (s : ByteArray) (k : Nat) (hk : k ≤ s.size) : ∀ (m p : Nat), k + off (s.extract k s.size) m p = off s m (k + p)
  | 0, _ => rfl
  | m + 1, p => by
    have hsz : (s.extract k s.size).size = s.size - k := by rw [ByteArray.size_extract]; omega
    by_cases h : k + p < s.size
    · rw [off_step s m h, off_step _ m (show p < (s.extract k s.size).size by omega), wd_cut s k p hk, off_cut s k hk m]
      rw [show k + (p + wd s (k + p)) = k + p + wd s (k + p) from by omega]
    · rw [off_end s _ (by omega), off_end _ _ (by omega)]
end Ro

theorem iter_next (s : ByteArray) (pos : Nat) (w : World) (h : pos < s.size) (ty : TypeId) : (Instr.next (.pointer (some ⟨w.heap.size, 0, none⟩)) true ty).run Try.prog (w.iter s pos) =
      .ok (.tuple #[.bool true, .int .i64 pos, .int .i32 (Utf8.decode s pos).1]) (w.iter s (pos + Ro.wd s pos)) := run_next_any w s pos ty h

set_option maxRecDepth 100000 in
theorem rune_pos (s : ByteArray) (j : Nat) (w : World) (hj : j ≤ 9223372036854775807) :
    Calls Try.prog 14 #[.string s, .int .i64 j] w fun e w' => e = .returned (.int .i64 (Ro.off s j 0)) ∧ ∃ pos, w' = w.iter s pos := by
  obtain ⟨R, hR⟩ : ∃ R, Ro.off s j 0 = R := ⟨_, rfl⟩
  rw [hR]
  have HR : Hid (Ro.off s j 0 = R) := hR
  clear hR
  go_enter Try.func14, Try.ntmps14
  go_wp2
  go_loopw [1] (fun iv w' => ∃ pos m : Nat, w' = w.iter s pos ∧ iv = .int .i64 m ∧ Ro.off s m pos = R ∧ pos ≤ s.size ∧ m ≤ 9223372036854775807) (fun _ w' => s.size - w'.iterPos w.heap.size)
  case atStart => exact ⟨0, j, rfl, rfl, HR.out, Nat.zero_le _, hj⟩
  case round =>
    obtain ⟨pos, m, rfl, rfl, hoff, hpos, hm⟩ := hrel
    have HO : Hid (Ro.off s m pos = R) := hoff
    clear hoff
    by_cases hp : pos < s.size
    · have hnx := iter_next s pos w hp
      by_cases h0 : m = 0
      · have g1 : ((m : Int) == 0) = true := beq_iff_eq.2 (by omega)
        have H0 : Hid (m = 0) := h0
        clear h0
        go_wp2
        go_ret
        exact ⟨ret_int (by rw [← HO.out, H0.out]; rfl), _, rfl⟩
      · have g1 : ((m : Int) == 0) = false := beq_eq_false_iff_ne.2 (by omega)
        have hwd := Ro.wd_pos s pos hp
        have hwl := Ro.wd_le s pos hp
        go_wp2
        go_roundw
        case rel =>
          refine ⟨pos + Ro.wd s pos, m - 1, rfl, ?_, ?_, hwl, by omega⟩
          · go_num
          · rw [← HO.out]
            have : m = (m - 1) + 1 := by omega
            conv => rhs; rw [this, Ro.off_step s _ hp]
        case measure => simp; omega
    · have hnx : ∀ ty, (Instr.next (.pointer (some ⟨w.heap.size, 0, none⟩)) true ty).run Try.prog (w.iter s pos) = _ := fun ty => run_next_end w s pos ty hp
      go_wp2
      go_ret
      exact ⟨ret_int (by rw [← HO.out, Ro.off_end s m (by omega)]; omega), _, rfl⟩

theorem wrap_ne {j : Int} {t : Nat} (h1 : j < 0) (h2 : -9223372036854775808 ≤ j) (h3 : t ≤ 2097152) : (wrap64 (j - t) == 0) = false := by
  rw [beq_eq_false_iff_ne]
  unfold wrap64
  omega
theorem wrap_next (j : Int) (t : Nat) : wrap64 (wrap64 (j - t) - 1) = wrap64 (j - (t + 1 : Nat)) := by
  unfold wrap64
  omega
theorem wrap_self {j : Int} (h1 : j < 0) (h2 : -9223372036854775808 ≤ j) : j = wrap64 (j - (0 : Nat)) := by
  unfold wrap64
  omega

set_option maxRecDepth 100000 in
theorem rune_neg (s : ByteArray) (j : Int) (w : World) (hs : s.size ≤ 1048576) (hj : j < 0) (hj2 : -9223372036854775808 ≤ j) :
    Calls Try.prog 14 #[.string s, .int .i64 j] w fun e w' => e = .returned (.int .i64 s.size) ∧ ∃ pos, w' = w.iter s pos := by
  go_enter Try.func14, Try.ntmps14
  go_wp2
  go_loopw [1] (fun iv w' => ∃ pos t : Nat, w' = w.iter s pos ∧ iv = .int .i64 (wrap64 (j - t)) ∧ t ≤ pos ∧ pos ≤ s.size) (fun _ w' => s.size - w'.iterPos w.heap.size)
  case atStart => exact ⟨0, 0, rfl, congrArg (Value.int .i64) (wrap_self hj hj2), Nat.le_refl _, Nat.zero_le _⟩
  case round =>
    obtain ⟨pos, t, rfl, rfl, ht, hpos⟩ := hrel
    by_cases hp : pos < s.size
    · have hnx := iter_next s pos w hp
      have g1 := wrap_ne (t := t) hj hj2 (by omega)
      have g2 := wrap_next j t
      have HG2 : Hid (wrap64 (wrap64 (j - t) - 1) = wrap64 (j - (t + 1 : Nat))) := g2
      have hwd := Ro.wd_pos s pos hp
      have hwl := Ro.wd_le s pos hp
      clear g2
      generalize hv : wrap64 (j - (t : Int)) = v at *
      go_wp2
      go_roundw
      case rel => exact ⟨pos + Ro.wd s pos, t + 1, rfl, by rw [HG2.out], by omega, hwl⟩
      case measure => simp; omega
    · have hnx : ∀ ty, (Instr.next (.pointer (some ⟨w.heap.size, 0, none⟩)) true ty).run Try.prog (w.iter s pos) = _ := fun ty => run_next_end w s pos ty hp
      go_wp2
      go_ret
      exact ⟨rfl, _, rfl⟩

/-- ZZRuneOffset. -/
theorem zzrune_pos (s : ByteArray) (j : Nat) (w : World) (hj : j ≤ 9223372036854775807) :
    Calls Try.prog 11 #[.string s, .int .i64 j] w fun e w' => e = .returned (.int .i64 (Ro.off s j 0)) ∧ ∃ pos, w' = w.iter s pos := by
  go_enter Try.func11, Try.ntmps11
  go_wp2_with (go_at_call 14; refine (rune_pos s j _ hj).mono ?_; rintro e w' ⟨rfl, h1⟩)
  go_ret
  exact ⟨rfl, h1⟩
theorem zzrune_neg (s : ByteArray) (j : Int) (w : World) (hs : s.size ≤ 1048576) (hj : j < 0) (hj2 : -9223372036854775808 ≤ j) :
    Calls Try.prog 11 #[.string s, .int .i64 j] w fun e w' => e = .returned (.int .i64 s.size) ∧ ∃ pos, w' = w.iter s pos := by
  go_enter Try.func11, Try.ntmps11
  go_wp2_with (go_at_call 14; refine (rune_neg s j _ hs hj hj2).mono ?_; rintro e w' ⟨rfl, h1⟩)
  go_ret
  exact ⟨rfl, h1⟩

theorem width_wd (s : ByteArray) (p : Nat) (w : World) (hp : p < s.size) (hs : s.size ≤ 2097152) :
    Calls Try.prog 15 #[.string s, .int .i64 p] w fun e w' => e = .returned (.int .i64 (Ro.wd s p)) ∧ w' = w := width_any s p w hp hs

theorem bytes10 (s : ByteArray) (i j : Int) (w : World) (h : s.size ≤ 1048576) : Calls Try.prog 10 #[.string s, .int .i64 i, .int .i64 j] w fun e w' => e = .returned (.bool true) ∧ w' = w := by
  go_enter Try.func10, Try.ntmps10
  go_wp2
  go_ret
  exact ⟨rfl, rfl⟩

/-- zzCharOffset. -/
theorem char_neg (s : ByteArray) (j : Int) (w : World) (hj : j < 0) : Calls Try.prog 12 #[.string s, .int .i64 j] w fun e w' => e = .returned (.int .i64 s.size) ∧ w' = w := by
  go_enter Try.func12, Try.ntmps12
  go_wp2
  go_ret
  exact ⟨rfl, rfl⟩
theorem char_pos (s : ByteArray) (j : Nat) (w : World) (hs : s.size ≤ 1048576) (hj : j ≤ 9223372036854775807) :
    Calls Try.prog 12 #[.string s, .int .i64 j] w fun e w' => e = .returned (.int .i64 (Ro.off s j 0)) ∧ w' = w := by
  obtain ⟨R, hR⟩ : ∃ R, Ro.off s j 0 = R := ⟨_, rfl⟩
  rw [hR]
  have HR : Hid (Ro.off s j 0 = R) := hR
  clear hR
  go_enter Try.func12, Try.ntmps12
  go_wp2
  go_loop [1, 5] (fun iv pv => ∃ m p : Nat, iv = .int .i64 m ∧ pv = .int .i64 p ∧ Ro.off s m p = R ∧ p ≤ s.size ∧ m ≤ 9223372036854775807) (fun _ pv => s.size - (intOf pv).toNat)
  case atStart => exact ⟨j, 0, rfl, rfl, HR.out, Nat.zero_le _, hj⟩
  case round =>
    obtain ⟨m, p, rfl, rfl, hoff, hp, hm⟩ := hrel
    have HO : Hid (Ro.off s m p = R) := hoff
    clear hoff
    by_cases hlt : p < s.size
    · have d1 : decide ((p : Int) < (s.size : Int)) = true := by simp; omega
      by_cases h0 : 0 < m
      · have d2 : decide ((0 : Int) < (m : Int)) = true := by simp; omega
        have hwd := Ro.wd_pos s p hlt
        have hwl := Ro.wd_le s p hlt
        go_wp2_with (go_at_call 15; refine (width_wd s p _ hlt (by omega)).mono ?_; rintro e w' ⟨rfl, rfl⟩)
        go_round
        case rel =>
          refine ⟨m - 1, p + Ro.wd s p, ?_, ?_, ?_, hwl, by omega⟩
          · go_num
          · go_num
          · rw [← HO.out]
            have : m = (m - 1) + 1 := by omega
            conv => rhs; rw [this, Ro.off_step s _ hlt]
        case measure => simp [intOf]; omega
      · have d2 : decide ((0 : Int) < (m : Int)) = false := by simp; omega
        have H0 : Hid (m = 0) := by show m = 0; omega
        go_wp2
        go_ret
        exact ⟨ret_int (by rw [← HO.out, H0.out]; rfl), rfl⟩
    · have d1 : decide ((p : Int) < (s.size : Int)) = false := by simp; omega
      go_wp2
      go_ret
      exact ⟨ret_int (by rw [← HO.out, Ro.off_end s m (by omega)]), rfl⟩

theorem frozen_iter (w : World) (s : ByteArray) (p : Nat) (a : Addr) : (w.iter s p).frozen? a = w.frozen? a := by
  by_cases h : a.block = w.heap.size
  · have e1 : (w.iter s p).heap[a.block]? = some (.stringIter s p) := by rw [h]; exact World.iter_heap w s p
    have e2 : w.heap[a.block]? = none := by rw [h]; simp
    simp [World.frozen?, e1, e2]
  · exact World.frozen?_alloc_old _ _ _ h
theorem grown_iter {W w : World} (h : Grown W w) (s : ByteArray) (p : Nat) : Grown W (w.iter s p) :=
  ⟨World.keptBut_trans h.1 (World.keptBut_alloc _ _ _), fun a => (frozen_iter _ _ _ a).trans (h.2.1 a), Nat.le_trans h.2.2 (by show w.heap.size ≤ (w.heap.push _).size; simp)⟩

/-- THE LAW's MIDDLE: j and m in range. -/
theorem split_main (s : ByteArray) (j m : Nat) (w : World) (hs : s.size ≤ 1048576) (hj : j ≤ 1073741824) (hm : m ≤ 1073741824) :
    Calls Try.prog 5 #[.string s, .int .i64 j, .int .i64 m] w fun e w' => e = .returned (.bool true) ∧ Grown w w' := by
  have t1 : decide ((j : Int) < 0) = false := by simp
  have t2 : decide ((1073741824 : Int) < (j : Int)) = false := by simp; omega
  have t3 : decide ((m : Int) < 0) = false := by simp
  have t4 : decide ((1073741824 : Int) < (m : Int)) = false := by simp; omega
  have hk := Ro.off_le s j (Nat.zero_le _)
  have hK : Hid (Ro.off s (j + m) 0 = Ro.off s j 0 + Ro.off (s.extract (Ro.off s j 0) s.size) m 0) := by
    show _ = _
    rw [Ro.off_add, Ro.off_cut s (Ro.off s j 0) hk m 0, Nat.add_zero]
  have hle := Ro.off_le (s.extract (Ro.off s j 0) s.size) m (Nat.zero_le _)
  rw [ByteArray.size_extract] at hle
  go_enter Try.func5, Try.ntmps5
  go_wp2_with (first
    | (go_at_call 10; refine (bytes10 s j m _ hs).mono ?_; rintro e w' ⟨rfl, rfl⟩)
    | fail)
  refine (zzrune_pos s j _ (by omega)).mono ?_
  rintro e w1 ⟨rfl, p1, hw1⟩
  have g1 : Hid (Grown w' w1) := by rw [hw1]; exact grown_iter (Grown.refl _) s p1
  clear hw1
  go_wp2_with (first
    | (go_at_call 12; refine (char_pos s j _ hs (by omega)).mono ?_; rintro e w2 ⟨rfl, rfl⟩)
    | fail)
  rw [show ((j : Int) + (m : Int)) = ((j + m : Nat) : Int) from by omega]
  refine (zzrune_pos s (j + m) _ (by omega)).mono ?_
  rintro e w3 ⟨rfl, p3, hw3⟩
  have g3 : Hid (Grown w' w3) := by rw [hw3]; exact grown_iter g1.out s p3
  clear hw3
  rw [hK.out]
  clear hK
  generalize hk0 : Ro.off s j 0 = k at *
  clear hk0
  go_wp2_with fail
  refine (zzrune_pos (s.extract k s.size) m _ (by omega)).mono ?_
  rintro e w4 ⟨rfl, p4, hw4⟩
  have g4 : Hid (Grown w' w4) := by rw [hw4]; exact grown_iter g3.out _ p4
  clear hw4
  rw [Nat.min_self] at hle
  generalize Ro.off (s.extract k s.size) m 0 = r at *
  go_wp2
  go_ret
  exact ⟨rfl, g4.out⟩

/-- j or m out of range: only the first half of the law is asked. -/
theorem split_out (s : ByteArray) (j m : Int) (w : World) (hs : s.size ≤ 1048576) (hj : -9223372036854775808 ≤ j ∧ j ≤ 9223372036854775807) (hout : ¬ (0 ≤ j ∧ j ≤ 1073741824 ∧ 0 ≤ m ∧ m ≤ 1073741824)) :
    Calls Try.prog 5 #[.string s, .int .i64 j, .int .i64 m] w fun e w' => e = .returned (.bool true) ∧ Grown w w' := by
  by_cases h0 : j < 0
  · have t1 : decide (j < 0) = true := by simp; omega
    clear hout
    go_enter Try.func5, Try.ntmps5
    go_wp2_with (first
      | (go_at_call 10; refine (bytes10 s j m _ hs).mono ?_; rintro e w' ⟨rfl, rfl⟩)
      | fail)
    refine (zzrune_neg s j _ hs h0 hj.1).mono ?_
    rintro e w1 ⟨rfl, p1, hw1⟩
    have g1 : Hid (Grown w' w1) := by rw [hw1]; exact grown_iter (Grown.refl _) s p1
    clear hw1
    go_wp2_with (first
      | (go_at_call 12; refine (char_neg s j _ h0).mono ?_; rintro e w2 ⟨rfl, rfl⟩)
      | fail)
    go_ret
    exact ⟨rfl, g1.out⟩
  · obtain ⟨j, rfl⟩ := Int.eq_ofNat_of_zero_le (show 0 ≤ j by omega)
    have t1 : decide ((j : Int) < 0) = false := by simp
    rcases (show (1073741824 : Int) < (j : Int) ∨ ((j : Int) ≤ 1073741824 ∧ m < 0) ∨ ((j : Int) ≤ 1073741824 ∧ 0 ≤ m ∧ 1073741824 < m) by omega) with c | c | c
    · have t2 : decide ((1073741824 : Int) < (j : Int)) = true := by simp; omega
      clear hout
      go_enter Try.func5, Try.ntmps5
      go_wp2_with (first
        | (go_at_call 10; refine (bytes10 s j m _ hs).mono ?_; rintro e w' ⟨rfl, rfl⟩)
        | fail)
      refine (zzrune_pos s j _ (by omega)).mono ?_
      rintro e w1 ⟨rfl, p1, hw1⟩
      have g1 : Hid (Grown w' w1) := by rw [hw1]; exact grown_iter (Grown.refl _) s p1
      clear hw1
      go_wp2_with (first
        | (go_at_call 12; refine (char_pos s j _ hs (by omega)).mono ?_; rintro e w2 ⟨rfl, rfl⟩)
        | fail)
      go_ret
      exact ⟨rfl, g1.out⟩
    · have t2 : decide ((1073741824 : Int) < (j : Int)) = false := by simp; omega
      have t3 : decide (m < 0) = true := by simp; omega
      clear hout
      go_enter Try.func5, Try.ntmps5
      go_wp2_with (first
        | (go_at_call 10; refine (bytes10 s j m _ hs).mono ?_; rintro e w' ⟨rfl, rfl⟩)
        | fail)
      refine (zzrune_pos s j _ (by omega)).mono ?_
      rintro e w1 ⟨rfl, p1, hw1⟩
      have g1 : Hid (Grown w' w1) := by rw [hw1]; exact grown_iter (Grown.refl _) s p1
      clear hw1
      go_wp2_with (first
        | (go_at_call 12; refine (char_pos s j _ hs (by omega)).mono ?_; rintro e w2 ⟨rfl, rfl⟩)
        | fail)
      go_ret
      exact ⟨rfl, g1.out⟩
    · have t2 : decide ((1073741824 : Int) < (j : Int)) = false := by simp; omega
      have t3 : decide (m < 0) = false := by simp; omega
      have t4 : decide ((1073741824 : Int) < m) = true := by simp; omega
      clear hout
      go_enter Try.func5, Try.ntmps5
      go_wp2_with (first
        | (go_at_call 10; refine (bytes10 s j m _ hs).mono ?_; rintro e w' ⟨rfl, rfl⟩)
        | fail)
      refine (zzrune_pos s j _ (by omega)).mono ?_
      rintro e w1 ⟨rfl, p1, hw1⟩
      have g1 : Hid (Grown w' w1) := by rw [hw1]; exact grown_iter (Grown.refl _) s p1
      clear hw1
      go_wp2_with (first
        | (go_at_call 12; refine (char_pos s j _ hs (by omega)).mono ?_; rintro e w2 ⟨rfl, rfl⟩)
        | fail)
      go_ret
      exact ⟨rfl, g1.out⟩
end Go.Proofs.Qxb6619358a

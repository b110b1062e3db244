import Derived.Test.Qxb6619406aDigits
import Derived.Deep.RegionHeld
namespace Go.Proofs.Qxb6619406a
open Go.RowKit

theorem all_app (a b : List UInt8) : (a ++ b).all dig = (a.all dig && b.all dig) := by simp
theorem isEmpty_len (l : List UInt8) : l.isEmpty = decide (l.length = 0) := by cases l <;> simp
theorem cut_law {l : List UInt8} {i : Nat} (h : i ≤ l.length) :
    allDig l = ((decide (i = 0) || allDig (l.take i)) && (decide (i = l.length) || allDig (l.drop i)) && decide (0 < l.length)) := by
  have h1 : l.all dig = ((l.take i).all dig && (l.drop i).all dig) := by rw [← all_app, List.take_append_drop]
  unfold allDig
  rw [h1, isEmpty_len, isEmpty_len, isEmpty_len, List.length_take, List.length_drop]
  by_cases h0 : i = 0
  · subst h0
    by_cases h2 : l.length = 0
    · rw [h2]; rfl
    · rw [List.take_zero]
      rw [decide_eq_false (p := 0 = l.length) (by omega), decide_eq_true (p := 0 < l.length) (by omega), decide_eq_false (p := l.length - 0 = 0) (by omega), decide_eq_false (p := l.length = 0) h2]
      cases ((List.drop 0 l).all dig) <;> rfl
  · by_cases h2 : i = l.length
    · have hd : l.drop i = [] := List.drop_eq_nil_of_le (by omega)
      rw [hd, decide_eq_false (p := i = 0) h0, decide_eq_true (p := i = l.length) h2, decide_eq_true (p := 0 < l.length) (by omega), decide_eq_false (p := l.length = 0) (by omega), decide_eq_false (p := min i l.length = 0) (by omega)]
      cases ((List.take i l).all dig) <;> rfl
    · rw [decide_eq_false (p := i = 0) h0, decide_eq_false (p := i = l.length) h2, decide_eq_true (p := 0 < l.length) (by omega), decide_eq_false (p := l.length = 0) (by omega), decide_eq_false (p := min i l.length = 0) (by omega), decide_eq_false (p := l.length - i = 0) (by omega)]
      cases ((List.take i l).all dig) <;> cases ((List.drop i l).all dig) <;> rfl

theorem take_data (s : ByteArray) (i : Nat) : (s.extract 0 i).data.toList = s.data.toList.take i := by
  simp
theorem drop_data (s : ByteArray) (i : Nat) : (s.extract i s.size).data.toList = s.data.toList.drop i := by
  simp [ByteArray.data_extract]
  rw [List.take_of_length_le]
  simp

theorem bytes5 (s : ByteArray) (i : Int) (w : World) (h : s.size ≤ 1048576) : Calls Try.prog 5 #[.string s, .int .i64 i] w fun e w' => e = .returned (.bool true) ∧ w' = w := by
  go_enter Try.func5, Try.ntmps5
  go_wp2
  go_ret
  exact ⟨rfl, rfl⟩
theorem bytes8 (s : ByteArray) (i c : Int) (w : World) (h : s.size ≤ 1048576) : Calls Try.prog 8 #[.string s, .int .i64 i, .int .u8 c] w fun e w' => e = .returned (.bool true) ∧ w' = w := by
  go_enter Try.func8, Try.ntmps8
  go_wp2
  go_ret
  exact ⟨rfl, rfl⟩

set_option maxHeartbeats 400000 in
theorem cut_main (s : ByteArray) (i : Nat) (w : World) (hs : s.size ≤ 1048576) (hi : i ≤ s.size) :
    Calls Try.prog 3 #[.string s, .int .i64 i] w fun e w' => e = .returned (.bool true) ∧ w' = w := by
  have t3 : decide ((i : Int) < 0) = false := by simp
  have t4 : decide ((s.size : Int) < (i : Int)) = false := by simp; omega
  go_enter Try.func3, Try.ntmps3
  go_wp2_with fail
  refine (bytes5 s i _ (by omega)).mono ?_
  rintro e w' ⟨rfl, rfl⟩
  go_wp2_with fail
  refine (zzdigits_any s _ (by omega)).mono ?_
  rintro e w' ⟨rfl, rfl⟩
  go_wp2_with fail
  refine (zzdigits_any (s.extract 0 i) _ (by simp; omega)).mono ?_
  rintro e w' ⟨rfl, rfl⟩
  go_wp2_with fail
  refine (zzdigits_any (s.extract i s.size) _ (by simp; omega)).mono ?_
  rintro e w' ⟨rfl, rfl⟩
  simp only [drop_data]
  have hl := cut_law (l := s.data.toList) (i := i) (by rw [len_list]; exact hi)
  rw [len_list] at hl
  generalize allDig (s.data.toList.take i) = A at *
  generalize allDig (s.data.toList.drop i) = B at *
  by_cases h1 : i = 0
  · have g1 : ((i : Int) == 0) = true := beq_iff_eq.2 (by rw [h1]; rfl)
    rw [decide_eq_true h1] at hl
    by_cases h2 : i = s.size
    · have g2 : ((i : Int) == (s.size : Int)) = true := beq_iff_eq.2 (by rw [h2])
      have g3 : decide (0 < s.size) = false := decide_eq_false (by omega)
      rw [decide_eq_true h2, decide_eq_false (p := 0 < s.size) (by omega)] at hl
      have hl : allDig s.data.toList = false := by rw [hl]; cases A <;> cases B <;> rfl
      clear h1 h2
      have HN : ∀ v, Hid (Calls Try.prog 7 #[.string s] v fun e w' => e = .returned (.bool (allDig s.data.toList)) ∧ w' = v) := fun v => nibble_any s v (by omega)
      rw [hl] at HN ⊢
      clear hl
      go_wp2_with fail
      refine (HN _).out.mono ?_
      rintro e w' ⟨rfl, rfl⟩
      go_wp2
      go_ret
      exact ⟨rfl, rfl⟩
    · have g2 : ((i : Int) == (s.size : Int)) = false := beq_eq_false_iff_ne.2 (by omega)
      have g3 : decide (0 < s.size) = true := decide_eq_true (by omega)
      rw [decide_eq_false h2, decide_eq_true (p := 0 < s.size) (by omega)] at hl
      have hl : allDig s.data.toList = B := by rw [hl]; cases A <;> cases B <;> rfl
      clear h1 h2
      cases B
      · skip
        have HN : ∀ v, Hid (Calls Try.prog 7 #[.string s] v fun e w' => e = .returned (.bool (allDig s.data.toList)) ∧ w' = v) := fun v => nibble_any s v (by omega)
        rw [hl] at HN ⊢
        clear hl
        go_wp2_with fail
        refine (HN _).out.mono ?_
        rintro e w' ⟨rfl, rfl⟩
        go_wp2
        go_ret
        exact ⟨rfl, rfl⟩
      · skip
        have HN : ∀ v, Hid (Calls Try.prog 7 #[.string s] v fun e w' => e = .returned (.bool (allDig s.data.toList)) ∧ w' = v) := fun v => nibble_any s v (by omega)
        rw [hl] at HN ⊢
        clear hl
        go_wp2_with fail
        refine (HN _).out.mono ?_
        rintro e w' ⟨rfl, rfl⟩
        go_wp2
        go_ret
        exact ⟨rfl, rfl⟩
  · have g1 : ((i : Int) == 0) = false := beq_eq_false_iff_ne.2 (by omega)
    rw [decide_eq_false h1] at hl
    by_cases h2 : i = s.size
    · have g2 : ((i : Int) == (s.size : Int)) = true := beq_iff_eq.2 (by rw [h2])
      have g3 : decide (0 < s.size) = true := decide_eq_true (by omega)
      rw [decide_eq_true h2, decide_eq_true (p := 0 < s.size) (by omega)] at hl
      have hl : allDig s.data.toList = A := by rw [hl]; cases A <;> cases B <;> rfl
      clear h1 h2
      cases A
      · skip
        have HN : ∀ v, Hid (Calls Try.prog 7 #[.string s] v fun e w' => e = .returned (.bool (allDig s.data.toList)) ∧ w' = v) := fun v => nibble_any s v (by omega)
        rw [hl] at HN ⊢
        clear hl
        go_wp2_with fail
        refine (HN _).out.mono ?_
        rintro e w' ⟨rfl, rfl⟩
        go_wp2
        go_ret
        exact ⟨rfl, rfl⟩
      · skip
        have HN : ∀ v, Hid (Calls Try.prog 7 #[.string s] v fun e w' => e = .returned (.bool (allDig s.data.toList)) ∧ w' = v) := fun v => nibble_any s v (by omega)
        rw [hl] at HN ⊢
        clear hl
        go_wp2_with fail
        refine (HN _).out.mono ?_
        rintro e w' ⟨rfl, rfl⟩
        go_wp2
        go_ret
        exact ⟨rfl, rfl⟩
    · have g2 : ((i : Int) == (s.size : Int)) = false := beq_eq_false_iff_ne.2 (by omega)
      have g3 : decide (0 < s.size) = true := decide_eq_true (by omega)
      rw [decide_eq_false h2, decide_eq_true (p := 0 < s.size) (by omega)] at hl
      have hl : allDig s.data.toList = (A && B) := by rw [hl]; cases A <;> cases B <;> rfl
      clear h1 h2
      cases A
      · have hl : allDig s.data.toList = false := hl
        have HN : ∀ v, Hid (Calls Try.prog 7 #[.string s] v fun e w' => e = .returned (.bool (allDig s.data.toList)) ∧ w' = v) := fun v => nibble_any s v (by omega)
        rw [hl] at HN ⊢
        clear hl
        go_wp2_with fail
        refine (HN _).out.mono ?_
        rintro e w' ⟨rfl, rfl⟩
        go_wp2
        go_ret
        exact ⟨rfl, rfl⟩
      · have hl : allDig s.data.toList = B := hl
        cases B
        · skip
          have HN : ∀ v, Hid (Calls Try.prog 7 #[.string s] v fun e w' => e = .returned (.bool (allDig s.data.toList)) ∧ w' = v) := fun v => nibble_any s v (by omega)
          rw [hl] at HN ⊢
          clear hl
          go_wp2_with fail
          refine (HN _).out.mono ?_
          rintro e w' ⟨rfl, rfl⟩
          go_wp2
          go_ret
          exact ⟨rfl, rfl⟩
        · skip
          have HN : ∀ v, Hid (Calls Try.prog 7 #[.string s] v fun e w' => e = .returned (.bool (allDig s.data.toList)) ∧ w' = v) := fun v => nibble_any s v (by omega)
          rw [hl] at HN ⊢
          clear hl
          go_wp2_with fail
          refine (HN _).out.mono ?_
          rintro e w' ⟨rfl, rfl⟩
          go_wp2
          go_ret
          exact ⟨rfl, rfl⟩

end Go.Proofs.Qxb6619406a

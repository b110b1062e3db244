import Derived.Test.Qxb6619358aEnd
namespace Go.Proofs.Qxb6619358a
open Go.RowKit

theorem data_app (p s : ByteArray) : (p ++ s).data.toList = p.data.toList ++ s.data.toList := by simp

theorem bytes6 (s p : ByteArray) (i : Int) (w : World) (h : s.size + p.size ≤ 1048576) : Calls Try.prog 6 #[.string s, .string p, .int .i64 i] w fun e w' => e = .returned (.bool true) ∧ w' = w := by
  go_enter Try.func6, Try.ntmps6
  go_wp2
  go_ret
  exact ⟨rfl, rfl⟩
theorem bytes9 (s p : ByteArray) (i : Int) (w : World) (h : s.size + p.size ≤ 1048576) : Calls Try.prog 9 #[.string s, .string p, .int .i64 i] w fun e w' => e = .returned (.bool true) ∧ w' = w := by
  go_enter Try.func9, Try.ntmps9
  go_wp2
  go_ret
  exact ⟨rfl, rfl⟩

set_option maxHeartbeats 400000 in
theorem shift_main (s p : ByteArray) (i : Nat) (w : World) (hs : s.size ≤ 524288) (hp : p.size ≤ 524288) (hi : i ≤ 1073741824) :
    Calls Try.prog 3 #[.string s, .string p, .int .i64 i] w fun e w' => e = .returned (.bool true) ∧ w' = w := by
  have t1 : decide ((524288 : Int) < (s.size : Int)) = false := by simp; omega
  have t2 : decide ((524288 : Int) < (p.size : Int)) = false := by simp; omega
  have t3 : decide ((i : Int) < 0) = false := by simp
  have t4 : decide ((1073741824 : Int) < (i : Int)) = false := by simp; omega
  go_enter Try.func3, Try.ntmps3
  go_wp2_with fail
  refine (bytes6 s p i _ (by omega)).mono ?_
  rintro e w' ⟨rfl, rfl⟩
  go_wp2_with fail
  refine (zzend_any s i _ (by omega) (by omega)).mono ?_
  rintro e w' ⟨rfl, rfl⟩
  go_wp2_with fail
  refine (quote_any s i _ (by omega) hi).mono ?_
  rintro e w' ⟨rfl, rfl⟩
  go_wp2_with fail
  rw [show ((i : Int) + (p.size : Int)) = ((i + p.size : Nat) : Int) from by omega]
  refine (zzend_any (p ++ s) (i + p.size) _ (by rw [ByteArray.size_append]; omega) (by omega)).mono ?_
  have hS : Se.SE (p ++ s).data.toList (i + p.size) = ((Se.SE s.data.toList i).1 + p.size, (Se.SE s.data.toList i).2) := by
    have h := Se.SE_shift p.data.toList s.data.toList i
    rw [len_list] at h
    rw [data_app]; exact h
  rw [hS]
  clear hS
  rintro e w' ⟨rfl, rfl⟩
  have hle := Se.SE_le s.data.toList i
  rw [len_list] at hle
  generalize Se.SE s.data.toList i = r at *
  go_wp2
  go_ret
  exact ⟨rfl, rfl⟩

set_option maxHeartbeats 1000000 in
theorem keep_main (s p : ByteArray) (i : Nat) (w : World) (hs : s.size ≤ 524288) (hp : p.size ≤ 524288) (hi : i ≤ 9223372036854775807) :
    Calls Try.prog 4 #[.string s, .string p, .int .i64 i] w fun e w' => e = .returned (.bool true) ∧ w' = w := by
  have t1 : decide ((524288 : Int) < (s.size : Int)) = false := by simp; omega
  have t2 : decide ((524288 : Int) < (p.size : Int)) = false := by simp; omega
  go_enter Try.func4, Try.ntmps4
  go_wp2_with fail
  refine (bytes9 s p i _ (by omega)).mono ?_
  rintro e w' ⟨rfl, rfl⟩
  go_wp2_with fail
  refine (zzend_any s i _ (by omega) hi).mono ?_
  rintro e w' ⟨rfl, rfl⟩
  go_wp2_with fail
  refine (zzend_any (s ++ p) i _ (by rw [ByteArray.size_append]; omega) hi).mono ?_
  rintro e w' ⟨rfl, rfl⟩
  rw [data_app]
  have hl1 := len_list s
  have hl2 : (s.data.toList ++ p.data.toList).length = s.size + p.size := by simp
  have hle2 := Se.SE_le (s.data.toList ++ p.data.toList) i
  cases h1 : (Se.SE s.data.toList i).2
  · have e1 := Se.SE_false i h1
    cases h2 : (Se.SE (s.data.toList ++ p.data.toList) i).2
    · have e2 := Se.SE_false i h2
      rw [e1, e2, hl1, hl2]
      clear e1 e2 hl1 hl2 hle2 h1 h2
      go_wp2
      go_ret
      exact ⟨rfl, rfl⟩
    · obtain ⟨q1, q2, q3⟩ := Se.SE_true i h2
      have q4 := Se.SE_past p.data.toList i h1 h2
      rw [e1, hl1]
      rw [hl1] at q4
      obtain ⟨E, hE⟩ : ∃ E, (Se.SE (s.data.toList ++ p.data.toList) i).1 = E + 1 := ⟨(Se.SE (s.data.toList ++ p.data.toList) i).1 - 1, by omega⟩
      rw [hE] at q1 q2 q3 q4 ⊢
      simp only [Nat.add_sub_cancel] at q3
      rw [hl2] at q2
      have hsz : (s ++ p).size = s.size + p.size := ByteArray.size_append
      have hE2 : E < (s ++ p).size := by omega
      have hb := at_byte hE2
      rw [data_app] at hb
      have hc : (s ++ p)[E] = 34 := by rw [hb] at q3; simpa using q3
      have g1 : (((s ++ p)[E].toNat : Int) == 34) = true := by rw [hc]; rfl
      have d1 : decide ((s.size : Int) < ((E : Int) + 1)) = true := by simp; omega
      have d2 : decide ((i : Int) < (E : Int) + 1) = true := by simp; omega
      have d3 : decide ((E : Int) + 1 ≤ (s.size : Int) + (p.size : Int)) = true := by simp; omega
      clear hb hc q3 hE h1 h2 hl1 hl2 hle2 e1
      go_wp2
      go_ret
      exact ⟨rfl, rfl⟩
  · obtain ⟨q1, q2, q3⟩ := Se.SE_true i h1
    have q4 := Se.SE_app p.data.toList i h1
    rw [q4, h1]
    obtain ⟨E, hE⟩ : ∃ E, (Se.SE s.data.toList i).1 = E + 1 := ⟨(Se.SE s.data.toList i).1 - 1, by omega⟩
    rw [hE] at q1 q2 q3 ⊢
    simp only [Nat.add_sub_cancel] at q3
    rw [len_list] at q2
    have hb := at_byte (s := s) (k := E) (by omega)
    have hc : s[E] = 34 := by rw [hb] at q3; simpa using q3
    have g1 : ((s[E].toNat : Int) != 34) = false := by rw [hc]; rfl
    have d1 : decide (((E + 1 : Nat) : Int) ≤ (i : Int)) = false := by simp; omega
    have d2 : decide ((s.size : Int) < ((E + 1 : Nat) : Int)) = false := by simp; omega
    clear hb hc q3 q4 hE h1 hl1 hl2 hle2
    go_wp2
    go_ret
    exact ⟨rfl, rfl⟩
end Go.Proofs.Qxb6619358a

import Derived.Test.Qxb6619358aRows
import Derived.Test.Qxb6619358aPlain
import Derived.WalkKit
import Derived.WalkLawsBesides
namespace Go.Proofs.Qxb6619358a
open Go.RowKit

theorem at_byte {s : ByteArray} {k : Nat} (h : k < s.size) : s.data.toList[k]? = some s[k] := by
  rw [List.getElem?_eq_getElem (by simpa using h)]; rfl
theorem len_list (s : ByteArray) : s.data.toList.length = s.size := by simp
theorem byte_ne {c m : UInt8} (h : c ≠ m) : ((c.toNat : Int) == (m.toNat : Int)) = false :=
  beq_eq_false_iff_ne.2 (fun e => h (UInt8.toNat_inj.1 (by omega)))
theorem byte_is {c m : UInt8} (h : c = m) : ((c.toNat : Int) == (m.toNat : Int)) = true := by rw [h]; simp

theorem ret_pair {a b : Int} {x y : Bool} (h : a = b) (h2 : x = y) : Ending.returned (.tuple #[.int .i64 a, .bool x]) = .returned (.tuple #[.int .i64 b, .bool y]) := by rw [h, h2]

set_option maxHeartbeats 400000 in
theorem end_any (s : ByteArray) (i : Nat) (w : World) (hs : s.size ≤ 2097152) (hi : i ≤ 9223372036854775807) :
    Calls Try.prog 13 #[.string s, .int .i64 i] w fun e w' => e = .returned (.tuple #[.int .i64 (Se.SE s.data.toList i).1, .bool (Se.SE s.data.toList i).2]) ∧ w' = w := by
  obtain ⟨r, hr⟩ : ∃ r, Se.SE s.data.toList i = r := ⟨_, rfl⟩
  rw [hr]
  have HR : Hid (Se.SE s.data.toList i = r) := hr
  clear hr
  go_enter Try.func13, Try.ntmps13
  go_wp2
  go_loop [1] (fun iv => ∃ k : Nat, k ≤ 9223372036854775807 ∧ iv = .int .i64 k ∧ Se.SE s.data.toList k = r) (fun iv => s.size + 2 - (intOf iv).toNat)
  case atStart => exact ⟨i, hi, rfl, HR.out⟩
  case round =>
    obtain ⟨k, hk, rfl, hS⟩ := hrel
    have HS : Hid (Se.SE s.data.toList k = r) := hS
    clear hS
    by_cases hlt : k < s.size
    · have hb := at_byte hlt
      have HB : Hid (s.data.toList[k]? = some s[k]) := hb
      clear hb
      by_cases h1 : s[k] = 92
      · have g1 : ((s[k].toNat : Int) == 92) = true := by rw [h1]; rfl
        have H1 : Hid (s[k] = 92) := h1
        clear h1
        go_wp2
        go_round
        case rel => exact ⟨k + 2, by omega, by go_num, by rw [← HS.out]; exact (Se.SE_esc (by rw [HB.out, H1.out])).symm⟩
        case measure => simp [intOf]; omega
      · by_cases h2 : s[k] = 34
        · have g1 : ((s[k].toNat : Int) == 92) = false := by rw [h2]; rfl
          have g2 : ((s[k].toNat : Int) == 34) = true := by rw [h2]; rfl
          have H2 : Hid (s[k] = 34) := h2
          clear h1 h2
          go_wp2
          go_ret2
          refine ⟨?_, rfl⟩
          rw [← HS.out, Se.SE_quote (by rw [HB.out, H2.out])]
          rfl
        · have g1 : ((s[k].toNat : Int) == 92) = false := byte_ne (m := 92) h1
          have g2 : ((s[k].toNat : Int) == 34) = false := byte_ne (m := 34) h2
          have H1 : Hid (s[k] ≠ 92) := h1
          have H2 : Hid (s[k] ≠ 34) := h2
          clear h1 h2
          go_wp2
          go_round
          case rel => exact ⟨k + 1, by omega, by go_num, by rw [← HS.out]; exact (Se.SE_other HB.out H1.out H2.out).symm⟩
          case measure => simp [intOf]; omega
    · go_wp2
      go_ret2
      refine ⟨?_, rfl⟩
      rw [← HS.out, Se.SE_out (by rw [len_list]; omega), len_list]
      rfl

/-- ZZStringEnd. -/
theorem zzend_any (s : ByteArray) (i : Nat) (w : World) (hs : s.size ≤ 2097152) (hi : i ≤ 9223372036854775807) :
    Calls Try.prog 7 #[.string s, .int .i64 i] w fun e w' => e = .returned (.tuple #[.int .i64 (Se.SE s.data.toList i).1, .bool (Se.SE s.data.toList i).2]) ∧ w' = w := by
  go_enter Try.func7, Try.ntmps7
  go_wp2_with (go_at_call 13; refine (end_any s i _ hs hi).mono ?_; rintro e w' ⟨rfl, rfl⟩)
  go_ret2
  exact ⟨rfl, rfl⟩

set_option maxHeartbeats 400000 in
/-- The parity model finds the same end. -/
theorem quote_any (s : ByteArray) (i : Nat) (w : World) (hs : s.size ≤ 2097152) (hi : i ≤ 1073741824) :
    Calls Try.prog 8 #[.string s, .int .i64 i] w fun e w' => e = .returned (.tuple #[.int .i64 (Se.SE s.data.toList i).1, .bool (Se.SE s.data.toList i).2]) ∧ w' = w := by
  go_enter Try.func8, Try.ntmps8
  go_wp2
  go_loop [6] (fun qv => ∃ q : Nat, i ≤ q ∧ (q ≤ s.size ∨ q = i) ∧ qv = .int .i64 q ∧ ∀ p, i ≤ p → p < q → ¬ Se.Closes s.data.toList i p) (fun qv => s.size - (intOf qv).toNat)
  case atStart => exact ⟨i, Nat.le_refl _, Or.inr rfl, rfl, fun p h1 h2 => by omega⟩
  case round =>
    obtain ⟨q, hiq, hqs, rfl, hno⟩ := hrel
    have HNO : Hid (∀ p, i ≤ p → p < q → ¬ Se.Closes s.data.toList i p) := hno
    clear hno
    by_cases hlt : q < s.size
    · have HB : Hid (s.data.toList[q]? = some s[q]) := at_byte hlt
      by_cases h2 : s[q] = 34
      · have g2 : ((s[q].toNat : Int) != 34) = false := by rw [h2]; rfl
        have H2 : Hid (s.data.toList[q]? = some 34) := by rw [← h2]; exact HB
        clear h2
        go_wp2
        go_loop [7] (fun rv => ∃ r : Nat, i ≤ r ∧ r ≤ q ∧ rv = .int .i64 r ∧ Se.bs s.data.toList i q = (q - r) + Se.bs s.data.toList i r) (fun rv => (intOf rv).toNat)
        case atStart => exact ⟨q, hiq, Nat.le_refl _, rfl, by omega⟩
        case round =>
          obtain ⟨r, hir, hrq, rfl, hbs⟩ := hrel
          have HBS : Hid (Se.bs s.data.toList i q = (q - r) + Se.bs s.data.toList i r) := hbs
          clear hbs
          by_cases hri : i < r
          · have hd : decide ((i : Int) < (r : Int)) = true := by simp; omega
            obtain ⟨r, rfl⟩ : ∃ x, r = x + 1 := ⟨r - 1, by omega⟩
            have hr1 : r < s.size := by omega
            have HC : Hid (s.data.toList[r]? = some s[r]) := at_byte hr1
            by_cases h3 : s[r] = 92
            · have g3 : ((s[r].toNat : Int) == 92) = true := byte_is (m := 92) h3
              have HB1 : Hid (Se.bs s.data.toList i (r + 1) = Se.bs s.data.toList i r + 1) := by
                simp only [Se.bs]; rw [if_pos ⟨by omega, by rw [HC.out, h3]⟩]; exact rfl
              clear h3
              go_wp2
              go_round
              case rel => exact ⟨r, by omega, by omega, by go_num, by rw [HBS.out, HB1.out]; omega⟩
              case measure => simp [intOf]
            · have g3 : ((s[r].toNat : Int) == 92) = false := byte_ne (m := 92) h3
              have HB1 : Hid (Se.bs s.data.toList i (r + 1) = 0) := by
                simp only [Se.bs]; rw [if_neg (by rw [HC.out]; simp [h3])]; exact rfl
              have HBQ : Hid (Se.bs s.data.toList i q = q - (r + 1)) := by rw [HBS.out, HB1.out]; exact rfl
              clear h3
              by_cases hpar : (q - (r + 1)) % 2 = 0
              · have g4 : (((q : Int) - ((r : Int) + 1 : Int)) % 2 == 0) = true := beq_iff_eq.2 (by omega)
                have HF : Hid (Se.SE s.data.toList i = (q + 1, true)) := Se.close_at hiq HNO.out ⟨H2.out, by rw [HBQ.out]; exact hpar⟩
                clear hpar
                go_wp2
                go_ret2
                refine ⟨?_, rfl⟩
                rw [HF.out]
                rfl
              · have g4 : (((q : Int) - ((r : Int) + 1 : Int)) % 2 == 0) = false := beq_eq_false_iff_ne.2 (by omega)
                have HF : Hid (¬ Se.Closes s.data.toList i q) := fun h => hpar (by rw [← HBQ.out]; exact h.2)
                clear hpar
                go_wp2
                go_round
                case rel => exact ⟨q + 1, by omega, Or.inl hlt, by go_num, fun p h1 h2 => by
                  rcases Nat.lt_or_ge p q with h | h
                  · exact HNO.out p h1 h
                  · obtain rfl : p = q := by omega
                    exact HF.out⟩
                case measure => simp [intOf]; omega
          · obtain rfl : r = i := by omega
            have hd : decide ((r : Int) < (r : Int)) = false := by simp
            have HBQ : Hid (Se.bs s.data.toList r q = q - r) := by rw [HBS.out, Se.bs_low (Nat.le_refl _)]; exact rfl
            by_cases hpar : (q - r) % 2 = 0
            · have g4 : (((q : Int) - (r : Int)) % 2 == 0) = true := beq_iff_eq.2 (by omega)
              have HF : Hid (Se.SE s.data.toList r = (q + 1, true)) := Se.close_at hiq HNO.out ⟨H2.out, by rw [HBQ.out]; exact hpar⟩
              clear hpar
              go_wp2
              go_ret2
              refine ⟨?_, rfl⟩
              rw [HF.out]
              rfl
            · have g4 : (((q : Int) - (r : Int)) % 2 == 0) = false := beq_eq_false_iff_ne.2 (by omega)
              have HF : Hid (¬ Se.Closes s.data.toList r q) := fun h => hpar (by rw [← HBQ.out]; exact h.2)
              clear hpar
              go_wp2
              go_round
              case rel => exact ⟨q + 1, by omega, Or.inl hlt, by go_num, fun p h1 h2 => by
                rcases Nat.lt_or_ge p q with h | h
                · exact HNO.out p h1 h
                · obtain rfl : p = q := by omega
                  exact HF.out⟩
              case measure => simp [intOf]; omega
      · have g0 : ((s[q].toNat : Int) == 34) = false := byte_ne (m := 34) h2
        have g2 : ((s[q].toNat : Int) != 34) = true := by rw [bne, g0]; rfl
        clear g0
        have HF : Hid (¬ Se.Closes s.data.toList i q) := fun h => h2 (by have := HB.out.symm.trans h.1; simpa using this)
        clear h2
        go_wp2
        go_round
        case rel => exact ⟨q + 1, by omega, Or.inl hlt, by go_num, fun p h1 h2 => by
          rcases Nat.lt_or_ge p q with h | h
          · exact HNO.out p h1 h
          · obtain rfl : p = q := by omega
            exact HF.out⟩
        case measure => simp [intOf]; omega
    · have HF : Hid (Se.SE s.data.toList i = (s.size, false)) := by
        have h := Se.close_none (l := s.data.toList) (i := i) (fun p h1 h2 => HNO.out p h1 (by rw [len_list] at h2; omega))
        rw [len_list] at h
        exact h
      go_wp2
      go_ret2
      refine ⟨?_, rfl⟩
      rw [HF.out]
      rfl
end Go.Proofs.Qxb6619358a

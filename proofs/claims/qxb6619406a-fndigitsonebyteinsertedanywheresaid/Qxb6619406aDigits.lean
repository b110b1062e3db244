import Derived.Test.Qxb6619406aRows
import Derived.WalkKit
import Derived.WalkLawsBesides
namespace Go.Proofs.Qxb6619406a
open Go.RowKit

/-! ### The plain law. -/
def dig (c : UInt8) : Bool := decide (48 ≤ c.toNat) && decide (c.toNat ≤ 57)
def allDig (l : List UInt8) : Bool := !l.isEmpty && l.all dig

theorem at_byte {s : ByteArray} {k : Nat} (h : k < s.size) : s.data.toList[k]? = some s[k] := by
  rw [List.getElem?_eq_getElem (by simpa using h)]; rfl
theorem len_list (s : ByteArray) : s.data.toList.length = s.size := by simp
theorem data_app (p s : ByteArray) : (p ++ s).data.toList = p.data.toList ++ s.data.toList := by simp

theorem all_at {l : List UInt8} {k : Nat} {c : UInt8} (h : l[k]? = some c) (hc : dig c = false) : allDig l = false := by
  have hm : c ∈ l := List.mem_of_getElem? h
  have : l.all dig = false := by
    rw [Bool.eq_false_iff]; intro h2
    have := List.all_eq_true.1 h2 c hm
    rw [hc] at this; simp at this
  simp [allDig, this]
theorem all_done {s : ByteArray} (h0 : 0 < s.size) (h : ∀ p, p < s.size → ∀ hp : p < s.size, dig s[p] = true) : allDig s.data.toList = true := by
  have h1 : s.data.toList.all dig = true := by
    rw [List.all_eq_true]
    intro c hc
    obtain ⟨p, hp⟩ := List.mem_iff_getElem?.1 hc
    have hl := (List.getElem?_eq_some_iff.1 hp).1
    rw [len_list] at hl
    have := at_byte hl
    rw [this] at hp
    rw [← Option.some.inj hp]
    exact h p hl hl
  have h2 : s.data.toList.isEmpty = false := by
    rw [List.isEmpty_eq_false_iff]
    intro hn
    have := len_list s
    rw [hn] at this
    simp at this; omega
  simp only [allDig, h1, h2]; rfl
theorem all_none {s : ByteArray} (h0 : s.size = 0) : allDig s.data.toList = false := by
  have : s.data.toList = [] := List.eq_nil_of_length_eq_zero (by rw [len_list]; exact h0)
  rw [this]; rfl

/-! ### The walks. -/
theorem digitbyte_any (c : UInt8) (w : World) : Calls Try.prog 9 #[.int .u8 (c.toNat : Int)] w fun e w' => e = .returned (.bool (dig c)) ∧ w' = w := by
  go_enter Try.func9, Try.ntmps9
  have hc := c.toNat_lt
  by_cases h : c.toNat / 16 = 3
  · have g : (((c.toNat : Int) / 16) == 3) = true := beq_iff_eq.2 (by omega)
    have HF : Hid (decide ((c.toNat : Int) % 16 ≤ 9) = dig c) := by
      show decide ((c.toNat : Int) % 16 ≤ 9) = dig c
      by_cases h2 : c.toNat % 16 ≤ 9
      · rw [decide_eq_true (by omega)]; symm; simp [dig]; omega
      · rw [decide_eq_false (by omega)]; symm; simp [dig]; omega
    go_wp2
    go_ret
    exact ⟨by rw [← HF.out]; rfl, rfl⟩
  · have g : (((c.toNat : Int) / 16) == 3) = false := beq_eq_false_iff_ne.2 (by omega)
    have HF : Hid (dig c = false) := by
      show dig c = false
      simp [dig]; omega
    clear h hc
    go_wp2
    go_ret
    exact ⟨by rw [HF.out]; rfl, rfl⟩

set_option maxHeartbeats 400000 in
theorem digits_any (s : ByteArray) (w : World) (hs : s.size ≤ 2097152) :
    Calls Try.prog 10 #[.string s] w fun e w' => e = .returned (.bool (allDig s.data.toList)) ∧ w' = w := by
  go_enter Try.func10, Try.ntmps10
  go_wp2
  go_loop [6] (fun qv => ∃ q : Nat, q ≤ s.size ∧ qv = .int .i64 q ∧ ∀ p, p < q → ∀ hp : p < s.size, dig s[p] = true) (fun qv => s.size - (intOf qv).toNat)
  case atStart => exact ⟨0, Nat.zero_le _, rfl, fun p h => by omega⟩
  case round =>
    obtain ⟨q, hq, rfl, hall⟩ := hrel
    have HALL : Hid (∀ p, p < q → ∀ hp : p < s.size, dig s[p] = true) := hall
    clear hall
    by_cases hlt : q < s.size
    · have HB : Hid (s.data.toList[q]? = some s[q]) := at_byte hlt
      by_cases h1 : s[q].toNat < 48
      · have g1 : decide ((s[q].toNat : Int) < 48) = true := by simp; omega
        have HF : Hid (allDig s.data.toList = false) := all_at HB.out (by simp [dig]; omega)
        clear h1
        go_wp2
        go_ret
        exact ⟨by rw [HF.out]; rfl, rfl⟩
      · by_cases h2 : 57 < s[q].toNat
        · have g1 : decide ((s[q].toNat : Int) < 48) = false := by simp; omega
          have g2 : decide ((57 : Int) < (s[q].toNat : Int)) = true := by simp; omega
          have HF : Hid (allDig s.data.toList = false) := all_at HB.out (by simp [dig]; omega)
          clear h1 h2
          go_wp2
          go_ret
          exact ⟨by rw [HF.out]; rfl, rfl⟩
        · have g1 : decide ((s[q].toNat : Int) < 48) = false := by simp; omega
          have g2 : decide ((57 : Int) < (s[q].toNat : Int)) = false := by simp; omega
          have HF : Hid (dig s[q] = true) := by show dig s[q] = true; simp [dig]; omega
          clear h1 h2
          go_wp2
          go_round
          case rel => exact ⟨q + 1, hlt, by go_num, fun p h1 h2 => by
            rcases Nat.lt_or_ge p q with h | h
            · exact HALL.out p h h2
            · obtain rfl : p = q := by omega
              exact HF.out⟩
          case measure => simp [intOf]; omega
    · obtain rfl : q = s.size := by omega
      by_cases h0 : s.size = 0
      · have HF : Hid (allDig s.data.toList = false) := all_none h0
        have HE : Hid (s.toList.isEmpty = true) := by
          show s.toList.isEmpty = true
          have h1 : s.data.toList = [] := List.eq_nil_of_length_eq_zero (by rw [len_list]; exact h0)
          rw [Go.ByteArray.toList_eq, h1]; rfl
        go_wp2
        rw [HE.out]
        go_ret
        exact ⟨by rw [HF.out]; rfl, rfl⟩
      · have HF : Hid (allDig s.data.toList = true) := all_done (by omega) (fun p h1 h2 => HALL.out p h1 h2)
        have HE : Hid (s.toList.isEmpty = false) := by
          show s.toList.isEmpty = false
          rw [Go.ByteArray.toList_eq, List.isEmpty_eq_false_iff]
          intro hn
          have := len_list s
          rw [hn] at this
          simp at this; omega
        go_wp2
        rw [HE.out]
        go_ret
        exact ⟨by rw [HF.out]; rfl, rfl⟩

/-- ZZdigits. -/
theorem zzdigits_any (s : ByteArray) (w : World) (hs : s.size ≤ 2097152) :
    Calls Try.prog 6 #[.string s] w fun e w' => e = .returned (.bool (allDig s.data.toList)) ∧ w' = w := by
  go_enter Try.func6, Try.ntmps6
  go_wp2_with (go_at_call 10; refine (digits_any s _ hs).mono ?_; rintro e w' ⟨rfl, rfl⟩)
  go_ret
  exact ⟨rfl, rfl⟩

set_option maxHeartbeats 400000 in
theorem nibble_any (s : ByteArray) (w : World) (hs : s.size ≤ 2097152) :
    Calls Try.prog 7 #[.string s] w fun e w' => e = .returned (.bool (allDig s.data.toList)) ∧ w' = w := by
  by_cases h0 : s.size = 0
  · have HF : Hid (allDig s.data.toList = false) := all_none h0
    go_enter Try.func7, Try.ntmps7
    go_wp2
    go_ret
    exact ⟨by rw [HF.out]; rfl, rfl⟩
  have g0 : ((s.size : Int) == 0) = false := beq_eq_false_iff_ne.2 (by omega)
  go_enter Try.func7, Try.ntmps7
  go_wp2
  go_loop [3] (fun qv => ∃ q : Nat, q ≤ s.size ∧ qv = .int .i64 q ∧ ∀ p, p < q → ∀ hp : p < s.size, dig s[p] = true) (fun qv => s.size - (intOf qv).toNat)
  case atStart => exact ⟨0, Nat.zero_le _, rfl, fun p h => by omega⟩
  case round =>
    obtain ⟨q, hq, rfl, hall⟩ := hrel
    have HALL : Hid (∀ p, p < q → ∀ hp : p < s.size, dig s[p] = true) := hall
    clear hall
    by_cases hlt : q < s.size
    · have HB : Hid (s.data.toList[q]? = some s[q]) := at_byte hlt
      go_wp2_with fail
      refine (digitbyte_any s[q] _).mono ?_
      rintro e w' ⟨rfl, rfl⟩
      by_cases h1 : dig s[q] = true
      · have HF : Hid (dig s[q] = true) := h1
        go_wp2
        go_round
        case rel => exact ⟨q + 1, hlt, by go_num, fun p h1 h2 => by
          rcases Nat.lt_or_ge p q with h | h
          · exact HALL.out p h h2
          · obtain rfl : p = q := by omega
            exact HF.out⟩
        case measure => simp [intOf]; omega
      · have h1 : dig s[q] = false := by simpa using h1
        have HF : Hid (allDig s.data.toList = false) := all_at HB.out h1
        go_wp2
        go_ret
        exact ⟨by rw [HF.out]; rfl, rfl⟩
    · obtain rfl : q = s.size := by omega
      have HF : Hid (allDig s.data.toList = true) := all_done (by omega) (fun p h1 h2 => HALL.out p h1 h2)
      go_wp2
      go_ret
      exact ⟨by rw [HF.out]; rfl, rfl⟩

end Go.Proofs.Qxb6619406a

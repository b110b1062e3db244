import Derived.Test.Qxb6619406aCut
import Derived.Laws.IdiomStrings
import Derived.Deep.RegionWith

namespace Go.Proofs.Qxb6619406a
open Go.RowKit

theorem one_law (c : UInt8) : allDig [c] = dig c := by simp [allDig]
theorem insert_law (l : List UInt8) (i : Nat) (c : UInt8) :
    allDig (l.take i ++ [c] ++ l.drop i) = ((allDig l || decide (l.length = 0)) && dig c) := by
  have h1 : l.all dig = ((l.take i).all dig && (l.drop i).all dig) := by rw [← all_app, List.take_append_drop]
  unfold allDig
  rw [all_app, all_app, h1]
  have h2 : (l.take i ++ [c] ++ l.drop i).isEmpty = false := by simp
  have h3 : [c].all dig = dig c := by simp
  rw [h2, h3, isEmpty_len]
  by_cases h : l.length = 0
  · have : l = [] := List.eq_nil_of_length_eq_zero h
    subst this
    simp
  · rw [decide_eq_false h]
    cases ((List.take i l).all dig) <;> cases ((List.drop i l).all dig) <;> cases dig c <;> rfl

theorem one_string (c : UInt8) (v : World) :
    (convert 25 9 (.slice (some { block := v.heap.size, off := 0 }) 1 1)).run Try.prog (v.alloc (.cells #[.int .u8 (c.toNat : Int)] 5)) = .ok (.string ⟨#[c]⟩) (v.alloc (.cells #[.int .u8 (c.toNat : Int)] 5)) := by
  refine run_convert_bytes_back (P := Try.prog) _ 25 9 5 _ 1 [c] Try.underlying25 Try.underlying5 Try.underlying9 ?_
  intro j hj
  have : j = 0 := by simp at hj; omega
  subst this
  exact World.cell?_alloc_mark v #[.int .u8 (c.toNat : Int)] 5 _ 0

set_option maxHeartbeats 400000 in
theorem insert_main (s : ByteArray) (i : Nat) (c : UInt8) (w : World) (hs : s.size ≤ 1048576) (hi : i ≤ s.size) :
    Calls Try.prog 4 #[.string s, .int .i64 i, .int .u8 (c.toNat : Int)] w fun e w' => e = .returned (.bool true) ∧ Grown w w' := by
  have kc := one_string c
  have t3 : decide ((i : Int) < 0) = false := by simp
  have t4 : decide ((s.size : Int) < (i : Int)) = false := by simp; omega
  go_enter Try.func4, Try.ntmps4
  go_wp2_with fail
  refine (bytes8 s i _ _ (by omega)).mono ?_
  rintro e w' ⟨rfl, rfl⟩
  go_wp2_with fail
  have hz1 : (s.extract 0 i).size = i := by simp; omega
  have hz2 : (s.extract i s.size).size = s.size - i := by simp
  have hz3 : (ByteArray.mk #[c]).size = 1 := rfl
  go_region
  go_wp2_with fail
  have hG : Grown w' (w'.alloc (Obj.cells #[Value.int IntKind.u8 ↑c.toNat] 5)).drew := Grown.drew (Grown.alloc (Grown.refl _) _ _)
  generalize (w'.alloc (Obj.cells #[Value.int IntKind.u8 ↑c.toNat] 5)).drew = w1 at hG ⊢
  clear kc
  refine (zzdigits_any s _ (by omega)).mono ?_
  rintro e w2 ⟨rfl, rfl⟩
  obtain ⟨Z, hZ⟩ : ∃ Z, decide (s.size = 0) = Z := ⟨_, rfl⟩
  have HZ : Hid (decide (s.size = 0) = Z) := hZ
  clear hZ
  have HA : ∀ v, Hid (Calls Try.prog 6 #[.string (s.extract 0 i ++ { data := #[c] } ++ s.extract i s.size)] v fun e w' => e = .returned (.bool ((allDig s.data.toList || Z) && dig c)) ∧ w' = v) := by
    intro v
    have h := zzdigits_any (s.extract 0 i ++ { data := #[c] } ++ s.extract i s.size) v (by rw [ByteArray.size_append, ByteArray.size_append, hz1, hz2, hz3]; omega)
    rw [data_app, data_app, take_data, drop_data, show (ByteArray.mk #[c]).data.toList = [c] from rfl, insert_law, len_list, HZ.out] at h
    exact h
  go_wp2_with fail
  refine (HA _).out.mono ?_
  rintro e w' ⟨rfl, rfl⟩
  have HO : ∀ v, Hid (Calls Try.prog 6 #[.string { data := #[c] }] v fun e w' => e = .returned (.bool (dig c)) ∧ w' = v) := by
    intro v
    have h := zzdigits_any { data := #[c] } v (by rw [hz3]; omega)
    rw [show (ByteArray.mk #[c]).data.toList = [c] from rfl, one_law] at h
    exact h
  go_wp2_with fail
  refine (HO _).out.mono ?_
  rintro e w' ⟨rfl, rfl⟩
  have HD : ∀ v, Hid (Calls Try.prog 9 #[.int .u8 (c.toNat : Int)] v fun e w' => e = .returned (.bool (dig c)) ∧ w' = v) := fun v => digitbyte_any c v
  clear HA HO
  generalize dig c = D at *
  by_cases h0 : s.size = 0
  · have h1 : allDig s.data.toList = false := all_none h0
    obtain rfl : true = Z := by rw [← HZ.out, decide_eq_true h0]
    rw [h1]
    clear h1
    cases D
    · skip
      go_wp2_with fail
      refine (HD _).out.mono ?_
      rintro e w' ⟨rfl, rfl⟩
      go_wp2
      go_ret
      exact ⟨rfl, hG⟩
    · skip
      go_wp2_with fail
      refine (HD _).out.mono ?_
      rintro e w' ⟨rfl, rfl⟩
      go_wp2
      go_ret
      exact ⟨rfl, hG⟩
  · obtain rfl : false = Z := by rw [← HZ.out, decide_eq_false h0]
    have g0 : ((s.size : Int) == 0) = false := beq_eq_false_iff_ne.2 (by omega)
    generalize allDig s.data.toList = B at *
    cases D
    · cases B
      · skip
        go_wp2_with fail
        refine (HD _).out.mono ?_
        rintro e w' ⟨rfl, rfl⟩
        go_wp2
        go_ret
        exact ⟨rfl, hG⟩
      · skip
        go_wp2_with fail
        refine (HD _).out.mono ?_
        rintro e w' ⟨rfl, rfl⟩
        go_wp2
        go_ret
        exact ⟨rfl, hG⟩
    · cases B
      · skip
        go_wp2_with fail
        refine (HD _).out.mono ?_
        rintro e w' ⟨rfl, rfl⟩
        go_wp2
        go_ret
        exact ⟨rfl, hG⟩
      · skip
        go_wp2_with fail
        refine (HD _).out.mono ?_
        rintro e w' ⟨rfl, rfl⟩
        go_wp2
        go_ret
        exact ⟨rfl, hG⟩

end Go.Proofs.Qxb6619406a

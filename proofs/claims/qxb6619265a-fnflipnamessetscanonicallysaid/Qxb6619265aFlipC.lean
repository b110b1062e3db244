import Derived.Test.Qxb6619265aFlipB
namespace Go.Proofs.Qxb6619265a
open Go.RowKit Go.Maps

theorem Tabs.mono {w : World} {B tb L : Nat} {s : Flip.St} {own own' : Nat → Prop} (h : Tabs w B tb L s own) (hm : ∀ k, own k → own' k) : Tabs w B tb L s own' := by
  rcases h with ⟨a, b, c⟩ | ⟨gw, gp, bw, bp, cw, cp, Dw, Dp, T, a0, a1, a2, a3, a4⟩
  · exact Or.inl ⟨a, b, hm _ c⟩
  · exact Or.inr ⟨gw, gp, bw, bp, cw, cp, Dw, Dp, T, hm _ a0, hm _ a1, hm _ a2, hm _ a3, hm _ a4⟩

theorem range_lt {L i : Nat} (hL2 : L ≤ 24) (hi : i < 64 * 2 ^ L) : i < 2147483648 := by
  have : 2 ^ L ≤ 2 ^ 24 := Nat.pow_le_pow_right (by decide) hL2
  omega

/-- FLIP, at every height. -/
theorem flip_any (B tb L n i : Nat) (s : Flip.St) (own : Nat → Prop) (w : World) (hS : Tabs w B tb L s own) (hBt : B ≤ tb)
    (hL2 : L ≤ 24) (hi : i < 64 * 2 ^ L) (hv : Flip.ValidN s L n) (hI : Flip.Inv s) (hw : s.ws.length ≤ 500000) (hp : s.ps.length ≤ 500000) :
    Calls Try.prog 13 #[.pointer (some ⟨tb, 0, none⟩), .int .u64 n, .int .i64 i] w fun e w' => e = .returned (.int .u64 (Flip.flipN L i s n).2) ∧
      Tabs w' B tb L (Flip.flipN L i s n).1 (Later own w) ∧ Only own w w' := by
  unfold Flip.flipN
  unfold Flip.ValidN at hv
  by_cases hL : L = 0
  · subst hL
    rw [if_pos rfl] at hv
    refine (flip_zero tb n i w hv (by simpa using hi) (by simpa using hS.cell0)).mono ?_
    rintro e w' ⟨rfl, rfl⟩
    exact ⟨rfl, hS.mono (fun k h => Or.inl h), Only.refl _ _⟩
  · rw [if_neg hL] at hv ⊢
    exact flip_tree B tb L n i s own w hS hBt (by omega) hL2 (range_lt hL2 hi) hv hI hw hp

/-- ZZFlip. -/
theorem zzflip_any (B tb L n i : Nat) (s : Flip.St) (own : Nat → Prop) (w : World) (hS : Tabs w B tb L s own) (hBt : B ≤ tb)
    (hL2 : L ≤ 24) (hi : i < 64 * 2 ^ L) (hv : Flip.ValidN s L n) (hI : Flip.Inv s) (hw : s.ws.length ≤ 500000) (hp : s.ps.length ≤ 500000) :
    Calls Try.prog 10 #[.pointer (some ⟨tb, 0, none⟩), .int .u64 n, .int .i64 i] w fun e w' => e = .returned (.int .u64 (Flip.flipN L i s n).2) ∧
      Tabs w' B tb L (Flip.flipN L i s n).1 (Later own w) ∧ Only own w w' := by
  go_enter Try.func10, Try.ntmps10
  go_wp2_with (go_at_call 13; refine (flip_any B tb L n i s own w hS hBt hL2 hi hv hI hw hp).mono ?_; rintro e w' ⟨rfl, h1, h2⟩)
  go_ret
  exact ⟨rfl, h1, h2⟩

/-- ZZNewSets. -/
theorem zznew_any (L : Nat) (w : World) :
    Calls Try.prog 9 #[.int .i64 L] w fun e w' => e = .returned (.pointer (some ⟨w.heap.size, 0, none⟩)) ∧ w' = w.alloc (.cells #[.int .i64 L, .slice none 0 0, .slice none 0 0, .map none, .map none] 42) := by
  go_enter Try.func9, Try.ntmps9
  go_wp2
  go_ret
  exact ⟨rfl, rfl⟩

theorem tabs_new (w : World) (L : Nat) : Tabs (w.alloc (.cells #[.int .i64 L, .slice none 0 0, .slice none 0 0, .map none, .map none] 42)) w.heap.size w.heap.size L Flip.empty (fun k => w.heap.size ≤ k) :=
  Or.inl ⟨rfl, heap_alloc_new _ _, Nat.le_refl _⟩
end Go.Proofs.Qxb6619265a

/-
  THE PROOF OF 'Rows.FnFlipNamesSetsCanonicallySaid'. The frame is the seat's shell, laid by program; the walk is ours (Qxb6619265aNamesA and what it imports).
-/
import Derived.Test.Qxb6619265aRows
import Derived.WalkKit
import Derived.ProofKit
import Derived.OpenShut
import Derived.ShutString
import Derived.ChangeOld
import Derived.Below
import Derived.Test.Qxb6619265aNamesA
namespace Go.Proofs.Qxb6619265a.fnFlipNamesSetsCanonically
open Go.ChangeShapes Go.WideShapes Go.ChangeAt Go.RowKit
open Go.ChangeMaps (open_string shut_string)
set_option linter.unusedVariables false

theorem own : ownKnob Try.prog.godebug = none := by kernel_rfl
theorem laidOut : laidOutB Try.prog = true := by kernel_rfl

/-- WHAT THE WALK IS TOLD OF A SLICE OF INTEGERS THAT CAME IN: it is nil; or it leads to a row of 'cap' cells, the numbers 'zs' (the first 'len' are its elements, the rest its spare room), each fitting its kind. -/
def IsRow (k : IntKind) (w : World) (a : Option Addr) (len cap : Nat) (zs : List Int) : Prop :=
  (a = none ∧ len = 0 ∧ cap = 0 ∧ zs = []) ∨
  ∃ x, a = some x ∧ len ≤ cap ∧ cap ≤ maxLen ∧ zs.length = cap ∧ (∀ i, i < zs.length → w.cell? (x.add i) = some (.int k (zs.getD i 0))) ∧ ∀ n ∈ zs, (Lit.int k n).wf = true

/-- Is a member of the script out of range? Then there is a first such. -/
theorem first_bad (zs : List Int) (N : Nat) : ∀ len : Nat, (∀ c, c < len → 0 ≤ zs.getD c 0 ∧ zs.getD c 0 < N) ∨ ∃ m, m < len ∧ (∀ c, c < m → 0 ≤ zs.getD c 0 ∧ zs.getD c 0 < N) ∧ (zs.getD m 0 < 0 ∨ (N : Int) ≤ zs.getD m 0)
  | 0 => Or.inl (fun c hc => by omega)
  | n + 1 => by
    rcases first_bad zs N n with h | ⟨m, h1, h2, h3⟩
    · by_cases hn : 0 ≤ zs.getD n 0 ∧ zs.getD n 0 < N
      · refine Or.inl (fun c hc => ?_)
        rcases Nat.lt_or_ge c n with hl | hl
        · exact h c hl
        · obtain rfl : c = n := by omega
          exact hn
      · exact Or.inr ⟨n, by omega, h, by omega⟩
    · exact Or.inr ⟨m, by omega, h2, h3⟩

set_option maxRecDepth 100000 in
/-- Every way through the law. -/
theorem walk_of (a0 : Int) (a1 : Option Addr) (len cap : Nat) (zs : List Int) (w : World) (hm : len ≤ maxLen) (hr : Reads w a1 len zs) :
    Calls Try.prog 4 #[.int .i64 a0, .slice a1 len cap] w fun e w' => e = .returned (.bool true) ∧ Below w.heap.size w w' := by
  unfold maxLen at hm
  by_cases h1 : len ≤ 4096
  · by_cases h2 : a0 < 0
    · have t0 : decide ((4096 : Int) < (len : Int)) = false := by simp; omega
      go_enter Try.func4, Try.ntmps4
      go_wp2
      go_ret
      exact ⟨rfl, Below.refl _ _⟩
    · by_cases h3 : 24 < a0
      · have t1 : decide (a0 < 0) = false := by simp; omega
        go_enter Try.func4, Try.ntmps4
        go_wp2
        go_ret
        exact ⟨rfl, Below.refl _ _⟩
      · obtain ⟨L, rfl⟩ := Int.eq_ofNat_of_zero_le (show 0 ≤ a0 by omega)
        have hL : L ≤ 24 := by omega
        obtain ⟨N, hN⟩ : ∃ N, 64 * 2 ^ L = N := ⟨_, rfl⟩
        rcases first_bad zs N len with h | ⟨m, g1, g2, g3⟩
        · refine names_walk L len cap N a1 (fun c => (zs.getD c 0).toNat) w (fun k hk => ?_) (fun c hc => ?_) hL h1 hN
          · obtain ⟨b, off, ha, hb, hc⟩ := hr k hk
            refine ⟨b, off, ha, hb, ?_⟩
            rw [hc]
            have h0 := (h k hk).1
            have e : zs.getD k 0 = (((zs.getD k 0).toNat : Nat) : Int) := by omega
            exact congrArg (fun y : Int => some (Value.int .i64 y)) e
          · have := h c hc
            show (zs.getD c 0).toNat < N
            omega
        · exact names_bad L len cap N m a1 zs w hr hL h1 hN g1 g2 g3
  · by_cases h2 : len ≤ 1048576
    · go_enter Try.func4, Try.ntmps4
      go_wp2
      go_ret
      exact ⟨rfl, Below.refl _ _⟩
    · go_enter Try.func4, Try.ntmps4
      go_wp2
      go_ret
      exact ⟨rfl, Below.refl _ _⟩

/-! ### STEP 1: THE WALK: the Go text returns true, AND WRITES NOTHING THAT WAS THERE: 'Below w.heap.size w w'' (Derived/Below.lean: '.refl', '.alloc', '.drew', '.setCell' at a new block, '.trans'). Open each 'IsRow' by 'rcases' AHEAD of 'go_enter'; part every test ahead of the walk. -/
theorem walk (a0 : Int) (a1 : Option Addr) (len1 cap1 : Nat) (z1 : List Int) (w : World) (w0 : (Lit.int .i64 a0).wf = true) (w1 : IsRow .i64 w a1 len1 cap1 z1) :
    Calls Try.prog 4 #[.int .i64 a0, .slice a1 len1 cap1] w fun e w' => e = .returned (.bool true) ∧ Below w.heap.size w w' := by
  rcases w1 with ⟨rfl, rfl, rfl, rfl⟩ | ⟨x, rfl, hlc, hcm, hzl, hcell, hwf⟩
  · exact walk_of a0 none 0 0 [] w (by unfold maxLen; omega) (fun k hk => by omega)
  · exact walk_of a0 (some x) len1 cap1 z1 w (Nat.le_trans hlc hcm) (fun k hk => by
      obtain ⟨b, off, rfl, hc⟩ := ints_at hcell (by omega)
      exact ⟨b, off, rfl, block_lt_of_cell (hc k (by omega)), hc k (by omega)⟩)

/-! ### THE ROW's STEP: WRITTEN OUT: LEAVE IT -/
set_option maxRecDepth 100000 in
theorem lifted (os : Os) (started : os.Started) (H : Type) (enc : TypeId × Value → H) :
    ReturnsInHanded {} Try.checked os 4 .any (Rows.fnFlipNamesSetsCanonicallySpec.pre6 enc Try.prog Try.f4 Rows.fnFlipNamesSetsCanonicallyRow.domain false) (Rows.fnFlipNamesSetsCanonicallySpec.post enc Try.prog Try.f4 false true false false) := by
  refine returnsInHanded_of_change (C := Try.checked) own started (by kernel_rfl) Try.func4
    (ChangeSpec.witness6 (enc := enc) (C := Try.checked) false ⟨#[], #[.int .i64 0, .slice none 0 0], []⟩ 8 (by kernel_rfl) (by kernel_rfl) (by kernel_rfl) (by kernel_rfl)) ?_
  intro W base args ds gs before hval0 hW hcnd _
  have hval : ∀ (j : Nat) t v, Try.f4.params[j]? = some t → args[j]? = some v → Value.okWide Try.prog W .any base t v := hval0
  have hW' := hW
  obtain ⟨p, q, hA0, hV, rfl, hfz, hnd⟩ := hW
  have hA : DataW.TrodAll enc Try.prog W 0 (fun _ => true) true Try.f4.params.toList args.toList ds p := hA0
  rw [Try.params4] at hA hval
  obtain ⟨v0, vs0, d0, ds0, p0, q0, hargs, rfl, rfl, h0, r0⟩ := trodAll_cons hA
  obtain ⟨v1, vs1, d1, ds1, p1, q1, rfl, rfl, rfl, h1, r1⟩ := trodAll_cons r0
  obtain ⟨rfl, rfl, rfl⟩ := trodAll_nil r1
  obtain rfl : args = #[v0, v1] := by cases args; simp_all
  obtain ⟨rfl, rfl⟩ := trodVars_none hV
  obtain ⟨a0, rfl, rfl, rfl, w0⟩ := open_int Try.underlying3 (hval 0 3 v0 rfl rfl) h0
  obtain ⟨a1, len1, cap1, rfl⟩ := okWide_slice Try.underlying23 (hval 1 23 v1 rfl rfl)
  have k1 := h1
  have lt1 : ∀ x ∈ p1, x.block < W.heap.size := by obtain ⟨m, hm⟩ := k1; exact DataW.trod_lt m _ _ _ hm
  obtain ⟨z1, w1⟩ : ∃ zs, IsRow .i64 W a1 len1 cap1 zs := by
    obtain ⟨fuel, hf⟩ := h1
    rcases open_ints Try.underlying23 Try.underlying3 (by kernel_rfl) hf with ⟨hcs, _⟩ | ⟨x, l, c, zs, hcs, _, hl, hm, hz, _, hcell, hwz⟩
    · simp [Value.cells] at hcs
      obtain ⟨rfl, rfl, rfl⟩ := hcs
      exact ⟨[], .inl ⟨rfl, rfl, rfl, rfl⟩⟩
    · simp [Value.cells] at hcs
      obtain ⟨rfl, rfl, rfl⟩ := hcs
      exact ⟨zs, .inr ⟨_, rfl, hl, hm, by simpa using hz, hcell, hwz⟩⟩
  clear hA0 hval0
  refine (walk a0 a1 len1 cap1 z1 W w0 w1).mono fun e W' ⟨he, bel⟩ => ?_
  subst he
  exact ⟨_, rfl, _, _, _, [], _, [], hW', trodAll_mk1 (shut_bool Try.underlying4 _), (trodAll_cons_mk (shut_int Try.underlying3 w0) (trodAll_cons_mk (Below.trod laidOut (by kernel_rfl) (of_decide_eq_true (by kernel_rfl)) k1 bel lt1) trodAll_mk0)), rfl, bel.frame _, fun h => by cases h⟩

theorem over : Rows.fnFlipNamesSetsCanonicallyRow.holds Try.pinned (OpenSpec.ofChange Rows.fnFlipNamesSetsCanonicallySpec) :=
  OpenClaim.holds_of_wide 4 Try.f4 rfl rfl rfl rfl rfl rfl rfl ⟨rfl, rfl, rfl, rfl, rfl⟩ rfl rfl rfl rfl rfl (by kernel_rfl) Try.func4 (by kernel_rfl)
    (of_decide_eq_true (by kernel_rfl)) (by unfold Func.isWrapper; first | (rw [if_pos (by decide +kernel)]; kernel_rfl) | (rw [if_neg (by decide +kernel)]; exact ⟨rfl, rfl⟩))
    (fun os started H enc _ => lifted os started H enc)

/-- ████ THE STATEMENT ████ -/
theorem proved : Rows.FnFlipNamesSetsCanonicallySaid := over
#print axioms proved
end Go.Proofs.Qxb6619265a.fnFlipNamesSetsCanonically

import Derived.Test.Qxb6619265aFlipC
namespace Go.Proofs.Qxb6619265a
open Go.RowKit Go.Maps

/-- What a walk is told of the script: where it has an element, it has an address, and the cell holds it. -/
def Reads (w : World) (a : Option Addr) (len : Nat) (zs : List Int) : Prop :=
  ∀ k, k < len → ∃ b off, a = some ⟨b, off, none⟩ ∧ b < w.heap.size ∧ w.cell? ⟨b, off + k, none⟩ = some (.int .i64 (zs.getD k 0))

/-- The first k members of the script. -/
def scr (zs : List Int) (k : Nat) : List Nat := (List.range k).map fun m => (zs.getD m 0).toNat

theorem scr_succ (zs : List Int) (k : Nat) : scr zs (k + 1) = scr zs k ++ [(zs.getD k 0).toNat] := by simp [scr, List.range_succ]
theorem scr_lt {zs : List Int} {k N : Nat} (h : ∀ m, m < k → 0 ≤ zs.getD m 0 ∧ zs.getD m 0 < N) : ∀ x ∈ scr zs k, x < N := by
  intro x hx
  simp only [scr, List.mem_map, List.mem_range] at hx
  obtain ⟨m, hm, rfl⟩ := hx
  have := h m hm
  omega
theorem scr_length (zs : List Int) (k : Nat) : (scr zs k).length = k := by simp [scr]

theorem scr_ran {zs : List Int} {k L N : Nat} (hL : L ≤ 24) (hk : k ≤ 4096) (HN : Hid (64 * 2 ^ L = N)) (h : ∀ m, m < k → 0 ≤ zs.getD m 0 ∧ zs.getD m 0 < N) :
    Flip.Inv (Flip.run L (scr zs k)).1 ∧ Flip.ValidN (Flip.run L (scr zs k)).1 L (Flip.run L (scr zs k)).2 ∧ (Flip.run L (scr zs k)).1.ws.length ≤ 4097 ∧ (Flip.run L (scr zs k)).1.ps.length ≤ 98305 := by
  have r := Flip.ran L (scr zs k) (by rw [HN.out]; exact scr_lt h)
  have h1 := r.wl
  have h2 := r.pl
  rw [scr_length] at h1 h2
  have : L * k ≤ 24 * 4096 := Nat.mul_le_mul hL hk
  exact ⟨r.inv, r.val, by omega, by omega⟩

theorem Only.bel {w wr w' : World} (hb : Below w.heap.size w wr) (h : Only (fun q => w.heap.size ≤ q) wr w') : Below w.heap.size w w' :=
  hb.trans (h.below hb.size (fun _ _ h => h))
theorem Tabs.back {w wr w' : World} {B tb L : Nat} {s : Flip.St} (hb : Below w.heap.size w wr) (h : Tabs w' B tb L s (Later (fun q => w.heap.size ≤ q) wr)) : Tabs w' B tb L s (fun q => w.heap.size ≤ q) :=
  h.mono (fun k hk => by have := hb.size; rcases hk with hk | hk <;> omega)

theorem wrap_n {L : Nat} (hL : L ≤ 24) : wrap64 (64 * 2 ^ L) = ((64 * 2 ^ L : Nat) : Int) := by
  have h : (2 ^ L : Nat) ≤ 2 ^ 24 := Nat.pow_le_pow_right (by decide) hL
  have e : ((2 : Int) ^ L) = ((2 ^ L : Nat) : Int) := by simp
  rw [e]
  have e2 : (64 * ((2 ^ L : Nat) : Int)) = ((64 * 2 ^ L : Nat) : Int) := by simp
  rw [e2]
  generalize 64 * 2 ^ L = N at *
  exact IntWalk.wrap64_in _ (by constructor <;> omega)

/-- A flip keeps all that the next one asks. -/
theorem flip_keeps {L i n : Nat} {s : Flip.St} {r : Flip.St × Nat} (h : Flip.flipN L i s n = r) (hI : Flip.Inv s) (hv : Flip.ValidN s L n) (hL : L ≤ 24) :
    Flip.Inv r.1 ∧ Flip.ValidN r.1 L r.2 ∧ Flip.Ext s r.1 ∧ r.1.ws.length ≤ s.ws.length + 1 ∧ r.1.ps.length ≤ s.ps.length + 24 := by
  obtain ⟨a, b, c, _, e, f⟩ := Flip.flipN_spec (i := i) hI hv
  rw [h] at a b c e f
  exact ⟨a, c, b, e, by omega⟩

theorem undo_tests {L i j : Nat} {r r1 r2 r3 r4 r5 : Flip.St × Nat} (hI : Flip.Inv r.1) (hv : Flip.ValidN r.1 L r.2) (hi : i < 64 * 2 ^ L) (hj : j < 64 * 2 ^ L)
    (h1 : Flip.flipN L i r.1 r.2 = r1) (h2 : Flip.flipN L i r1.1 r1.2 = r2) (h3 : Flip.flipN L j r2.1 r1.2 = r3) (h4 : Flip.flipN L j r3.1 r.2 = r4) (h5 : Flip.flipN L i r4.1 r4.2 = r5) :
    ((r1.2 : Int) == (r.2 : Int)) = false ∧ ((r2.2 : Int) != (r.2 : Int)) = false ∧ ((r3.2 : Int) != (r5.2 : Int)) = false ∧ ((r3.2 : Int) == (r.2 : Int)) = ((i : Int) == (j : Int)) := by
  subst h5 h4 h3 h2 h1
  obtain ⟨a, b, c, d⟩ := Flip.undo hI hv hi hj
  refine ⟨beq_eq_false_iff_ne.2 (by omega), ?_, ?_, ?_⟩
  · rw [b]; simp
  · rw [c]; simp
  · rw [Bool.eq_iff_iff, beq_iff_eq, beq_iff_eq]
    constructor
    · intro h; have := d.1 (by omega); omega
    · intro h; have := d.2 (by omega); omega

set_option maxHeartbeats 1000000 in
theorem undo_walk (L len cap i j N : Nat) (a1 : Option Addr) (zs : List Int) (w : World) (hr : Reads w a1 len zs) (hL : L ≤ 24) (hlen : len ≤ 4096) (HN : Hid (64 * 2 ^ L = N)) (hi : i < N) (hj : j < N) :
    Calls Try.prog 5 #[.int .i64 L, .slice a1 len cap, .int .i64 i, .int .i64 j] w fun e w' => e = .returned (.bool true) ∧ Below w.heap.size w w' := by
  have hw : wrap64 (64 * 2 ^ L) = (N : Int) := by rw [wrap_n hL, HN.out]
  have hN2 : N ≤ 1073741824 := by rw [← HN.out]; have : (2 ^ L : Nat) ≤ 2 ^ 24 := Nat.pow_le_pow_right (by decide) hL; omega
  have t0 : decide ((4096 : Int) < (len : Int)) = false := by simp; omega
  have t1 : decide ((L : Int) < 0) = false := by simp
  have t2 : decide ((24 : Int) < (L : Int)) = false := by simp; omega
  have t3 : decide ((i : Int) < 0) = false := by simp
  have t4 : decide ((j : Int) < 0) = false := by simp
  have t5 : decide (N ≤ i) = false := by simp; omega
  have t6 : decide (N ≤ j) = false := by simp; omega
  go_enter Try.func5, Try.ntmps5
  go_wp2
  go_loop [10] (fun bv => ∃ k : Nat, k ≤ len ∧ bv = .int .i64 k ∧ ∀ m, m < k → 0 ≤ zs.getD m 0 ∧ zs.getD m 0 < N) (fun bv => len - (intOf bv).toNat)
  case atStart => exact ⟨0, Nat.zero_le _, rfl, fun m h => by omega⟩
  case round =>
    obtain ⟨k, hk, rfl, hz⟩ := hrel
    by_cases hlt : k < len
    · obtain ⟨b, off, ha, hb, hc⟩ := hr k hlt
      subst ha
      generalize hzk : zs.getD k 0 = z at *
      have HZ : Hid (zs.getD k 0 = z) := hzk
      clear hzk
      by_cases h1 : z < 0
      · go_wp2
        go_ret
        exact ⟨rfl, Below.refl _ _⟩
      · by_cases h2 : z < N
        · have g1 : decide (z < 0) = false := by simp; omega
          have g2 : decide ((N : Int) ≤ z) = false := by simp; omega
          go_wp2
          go_round
          case rel =>
            refine ⟨k + 1, by omega, by go_num, fun m hm => ?_⟩
            rcases Nat.lt_or_ge m k with h | h
            · exact hz m h
            · obtain rfl : m = k := by omega
              rw [HZ.out]; omega
          case measure => simp [intOf]; omega
        · have g1 : decide (z < 0) = false := by simp; omega
          have g2 : decide ((N : Int) ≤ z) = true := by simp; omega
          go_wp2
          go_ret
          exact ⟨rfl, Below.refl _ _⟩
    · obtain rfl : k = len := by omega
      go_wp2_with (first | (go_at_call 9; refine (zznew_any L _).mono ?_; rintro e w' ⟨rfl, rfl⟩))
      go_loopw [12, 13] (fun sv bv wr => ∃ m : Nat, m ≤ k ∧ bv = .int .i64 m ∧ sv = .int .u64 (Flip.run L (scr zs m)).2 ∧ Tabs wr w.heap.size w.heap.size L (Flip.run L (scr zs m)).1 (fun q => w.heap.size ≤ q) ∧ Below w.heap.size w wr) (fun _ bv _ => k - (intOf bv).toNat)
      case atStart => exact ⟨0, Nat.zero_le _, rfl, rfl, tabs_new w L, (Below.refl _ _).alloc (Nat.le_refl _) _⟩
      case round =>
        obtain ⟨m, hm, rfl, rfl, hS, hbel⟩ := hrel
        obtain ⟨i1, i2, i3, i4⟩ := scr_ran (k := m) hL (by omega) HN (fun q hq => hz q (by omega))
        have hsucc := scr_succ zs m
        by_cases hlt2 : m < k
        · obtain ⟨b, off, ha, hb, hc⟩ := hr m hlt2
          obtain ⟨z1, z2⟩ := hz m hlt2
          have hc2 : wr.cell? ⟨b, off + m, none⟩ = some (.int .i64 ((zs.getD m 0).toNat : Nat)) := by
            rw [hbel.cell hb, hc]; congr 2; omega
          have hx : (zs.getD m 0).toNat < N := by omega
          have hx2 : (zs.getD m 0).toNat < 64 * 2 ^ L := by rw [HN.out]; exact hx
          subst ha
          clear hc z1 z2 hr hz
          generalize (zs.getD m 0).toNat = x at *
          have HS : Hid (Flip.run L (scr zs (m + 1)) = Flip.flipN L x (Flip.run L (scr zs m)).1 (Flip.run L (scr zs m)).2) := by rw [hsucc]; exact Flip.run_snoc _ _ _
          clear hsucc
          generalize Flip.run L (scr zs m) = r at *
          go_wp2_with (first | (go_at_call 10; refine (zzflip_any _ _ L r.2 x r.1 _ _ hS (Nat.le_refl _) hL hx2 i2 i1 (by omega) (by omega)).mono ?_; rintro e w2 ⟨rfl, hS2, ho2⟩))
          go_roundw
          case rel => exact ⟨m + 1, by omega, by go_num, by rw [HS.out], by rw [HS.out]; exact hS2.back hbel, ho2.bel hbel⟩
          case measure => simp [intOf]; omega
        · clear hsucc hr hz
          have hi2 : i < 64 * 2 ^ L := by rw [HN.out]; exact hi
          have hj2 : j < 64 * 2 ^ L := by rw [HN.out]; exact hj
          generalize Flip.run L (scr zs m) = r at *
          go_wp2_with fail
          refine (zzflip_any _ _ L r.2 i r.1 _ _ hS (Nat.le_refl _) hL hi2 i2 i1 (by omega) (by omega)).mono ?_
          rintro e w1 ⟨rfl, hS1, ho1⟩
          generalize hq1 : Flip.flipN L i r.1 r.2 = r1 at *
          obtain ⟨j1, j2, j3, j4, j5⟩ := flip_keeps hq1 i1 i2 hL
          have Q1 : Hid (Flip.flipN L i r.1 r.2 = r1) := hq1
          have hb1 := ho1.bel hbel
          have hT1 := hS1.back hbel
          clear hq1 hS1 ho1
          go_wp2_with fail
          refine (zzflip_any _ _ L r1.2 i r1.1 _ _ hT1 (Nat.le_refl _) hL hi2 j2 j1 (by omega) (by omega)).mono ?_
          rintro e w2 ⟨rfl, hS2, ho2⟩
          generalize hq2 : Flip.flipN L i r1.1 r1.2 = r2 at *
          obtain ⟨k1, k2, k3, k4, k5⟩ := flip_keeps hq2 j1 j2 hL
          have Q2 : Hid (Flip.flipN L i r1.1 r1.2 = r2) := hq2
          have hb2 := ho2.bel hb1
          have hT2 := hS2.back hb1
          clear hq2 hS2 ho2
          go_wp2_with fail
          refine (zzflip_any _ _ L r1.2 j r2.1 _ _ hT2 (Nat.le_refl _) hL hj2 (j2.ext k3) k1 (by omega) (by omega)).mono ?_
          rintro e w3 ⟨rfl, hS3, ho3⟩
          generalize hq3 : Flip.flipN L j r2.1 r1.2 = r3 at *
          obtain ⟨l1, l2, l3, l4, l5⟩ := flip_keeps hq3 k1 (j2.ext k3) hL
          have Q3 : Hid (Flip.flipN L j r2.1 r1.2 = r3) := hq3
          have hb3 := ho3.bel hb2
          have hT3 := hS3.back hb2
          clear hq3 hS3 ho3
          go_wp2_with fail
          have v3 := ((i2.ext j3).ext k3).ext l3
          refine (zzflip_any _ _ L r.2 j r3.1 _ _ hT3 (Nat.le_refl _) hL hj2 v3 l1 (by omega) (by omega)).mono ?_
          rintro e w4 ⟨rfl, hS4, ho4⟩
          generalize hq4 : Flip.flipN L j r3.1 r.2 = r4 at *
          obtain ⟨m1, m2, m3, m4, m5⟩ := flip_keeps hq4 l1 v3 hL
          have Q4 : Hid (Flip.flipN L j r3.1 r.2 = r4) := hq4
          have hb4 := ho4.bel hb3
          have hT4 := hS4.back hb3
          clear hq4 hS4 ho4
          go_wp2_with fail
          refine (zzflip_any _ _ L r4.2 i r4.1 _ _ hT4 (Nat.le_refl _) hL hi2 m2 m1 (by omega) (by omega)).mono ?_
          rintro e w5 ⟨rfl, hS5, ho5⟩
          generalize hq5 : Flip.flipN L i r4.1 r4.2 = r5 at *
          have hb5 := ho5.bel hb4
          obtain ⟨g1, g2, g3, g4⟩ := undo_tests i1 i2 hi2 hj2 Q1.out Q2.out Q3.out Q4.out hq5
          clear hq5 hS5 ho5 hT1 hT2 hT3 hT4 hS
          go_wp2
          go_ret
          exact ⟨rfl, hb5⟩
end Go.Proofs.Qxb6619265a

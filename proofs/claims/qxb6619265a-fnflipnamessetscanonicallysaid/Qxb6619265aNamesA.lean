import Derived.Test.Qxb6619265aRow
import Derived.Deep.DeepCutAuto
namespace Go.Proofs.Qxb6619265a
open Go.RowKit Go.Maps

theorem Try.info3 : (Try.prog.info? 3).map (fun i => (i.zero, i.size, i.bytes)) = some (some (.int .i64 0), 1, 8) := by kernel_rfl
theorem Try.info4 : (Try.prog.info? 4).map (fun i => (i.zero, i.size, i.bytes)) = some (some (.bool false), 1, 1) := by kernel_rfl

theorem sc_ran {z : Nat → Nat} {k L N : Nat} (hL : L ≤ 24) (hk : k ≤ 4096) (HN : Hid (64 * 2 ^ L = N)) (h : ∀ m, m < k → z m < N) :
    Flip.Inv (Flip.run L (Flip.sc z k)).1 ∧ Flip.ValidN (Flip.run L (Flip.sc z k)).1 L (Flip.run L (Flip.sc z k)).2 ∧ (Flip.run L (Flip.sc z k)).1.ws.length ≤ 4097 ∧ (Flip.run L (Flip.sc z k)).1.ps.length ≤ 98305 := by
  have r := Flip.ran L (Flip.sc z k) (by
    rw [HN.out]; intro x hx
    simp only [Flip.sc, List.mem_map, List.mem_range] at hx
    obtain ⟨m, hm, rfl⟩ := hx
    exact h m hm)
  have h1 := r.wl
  have h2 := r.pl
  have hl : (Flip.sc z k).length = k := by simp [Flip.sc]
  rw [hl] at h1 h2
  have : L * k ≤ 24 * 4096 := Nat.mul_le_mul hL hk
  exact ⟨r.inv, r.val, by omega, by omega⟩

theorem made_start {w w2 : World} {L k : Nat} (hrow : w2.ownsRow w.heap.size 34 1 (.slice (some ⟨(w.alloc (.cells #[.int .i64 L, .slice none 0 0, .slice none 0 0, .map none, .map none] 42)).heap.size, 0, none⟩) k k) k (madeCells (Value.int .u64 0).cells (k * 1)).toList)
    (hg : (w.alloc (.cells #[.int .i64 L, .slice none 0 0, .slice none 0 0, .map none, .map none] 42)).grownBy w2 none) (f : Nat → Value) :
    Row w2 (w.heap.size + 1) k 34 0 f ∧ Tabs w2 w.heap.size w.heap.size L Flip.empty (fun q => q = w.heap.size ∨ w2.heap.size ≤ q) ∧ Below w.heap.size w w2 := by
  have e : (w.alloc (.cells #[.int .i64 L, .slice none 0 0, .slice none 0 0, .map none, .map none] 42)).heap.size = w.heap.size + 1 := by simp
  rw [e] at hrow
  obtain ⟨cs, h1, h2, _⟩ := row_made hrow
  refine ⟨⟨cs, h1, h2, fun c hc => by omega⟩, Or.inl ⟨rfl, ?_, Or.inl rfl⟩, ((Below.refl _ _).alloc (Nat.le_refl _) _).grown hg (by simp) (fun k h => by cases h)⟩
  rw [hg.block w.heap.size (by simp) (by simp)]
  exact heap_alloc_new _ _

/-- The names' row behind a flip. -/
theorem row_step {w w2 wr w3 : World} {k n m : Nat} {f : Nat → Value} {v : Value} (hR : Row wr (w.heap.size + 1) k 34 n f) (hcv : wr.cell? ⟨w.heap.size + 1, m, none⟩ = some v) (ho : Only (fun q => q = w.heap.size ∨ w2.heap.size ≤ q) wr w3) (hs : w2.heap.size ≤ wr.heap.size) (h2 : w.heap.size + 1 < w2.heap.size) :
    Row w3 (w.heap.size + 1) k 34 n f ∧ w3.cell? ⟨w.heap.size + 1, m, none⟩ = some v ∧ w3.frozen? ⟨w.heap.size + 1, m, none⟩ = false := by
  have hb := ho.block (w.heap.size + 1) (by omega) (by omega)
  have h := hR.kept hb
  exact ⟨h, by rw [← hcv]; exact World.cell?_of_block hb, h.free m⟩

theorem Tabs.setCell {w : World} {B tb L : Nat} {s : Flip.St} {own : Nat → Prop} (h : Tabs w B tb L s own) {a : Addr} (ha : ¬ own a.block) (v : Value) : Tabs (w.setCell a v) B tb L s own := by
  have ne : ∀ q, own q → ¬ q = a.block := fun q hq e => ha (by rw [← e]; exact hq)
  rcases h with ⟨x, y, o⟩ | ⟨gw, gp, bw, bp, cw, cp, Dw, Dp, T, a0, a1, a2, a3, a4⟩
  · exact Or.inl ⟨x, by rw [Below.heap_setCell _ _ _ _ (ne _ o)]; exact y, o⟩
  · exact Or.inr ⟨gw, gp, bw, bp, cw, cp, Dw, Dp, T.kept ((Only.refl (fun q => q = a.block) w).setCell (fun _ => rfl) v) (ne _ a0) (ne _ a1) (ne _ a2) (ne _ a3) (ne _ a4), a0, a1, a2, a3, a4⟩

theorem Tabs.back2 {w2 wr w' : World} {B tb L tq : Nat} {s : Flip.St} (hb : w2.heap.size ≤ wr.heap.size) (h : Tabs w' B tb L s (Later (fun q => q = tq ∨ w2.heap.size ≤ q) wr)) : Tabs w' B tb L s (fun q => q = tq ∨ w2.heap.size ≤ q) :=
  h.mono (fun k hk => by rcases hk with hk | hk <;> omega)
theorem Only.bel2 {w w2 wr w' : World} (hb : Below w.heap.size w wr) (h2 : w.heap.size ≤ w2.heap.size) (h : Only (fun q => q = w.heap.size ∨ w2.heap.size ≤ q) wr w') : Below w.heap.size w w' :=
  hb.trans (h.below hb.size (fun _ _ h => by omega))

/-- THE NAMES ARE LAID. -/
structure Mid (w wr : World) (L : Nat) (z : Nat → Nat) (nb k : Nat) : Prop where
  below : Below w.heap.size w wr
  names : Row wr nb k 34 k (fun c => .int .u64 (Flip.nm L z (c + 1)))
  new : w.heap.size ≤ nb

theorem Mid.made {w wr w3 : World} {L nb k e : Nat} {z : Nat → Nat} {v : Value} (h : Mid w wr L z nb k) (hrow : w3.ownsRow w.heap.size e 1 (.slice (some ⟨wr.heap.size, 0, none⟩) k k) k (madeCells v.cells (k * 1)).toList) (hg : wr.grownBy w3 none) (f : Nat → Value) (hv : v.cells = #[v] := by rfl) :
    Mid w w3 L z nb k ∧ Row w3 wr.heap.size k e 0 f ∧ w.heap.size ≤ wr.heap.size := by
  rw [hv] at hrow
  obtain ⟨cs, h1, h2, _⟩ := row_made hrow
  exact ⟨⟨h.below.grown hg h.below.size (fun k h => by cases h), h.names.kept (hg.block _ h.names.lt (by simp)), h.new⟩, ⟨cs, h1, h2, fun c hc => by omega⟩, h.below.size⟩
theorem Mid.store {w wr : World} {L nb k g c : Nat} {z : Nat → Nat} (h : Mid w wr L z nb k) (hne : nb ≠ g) (hg : w.heap.size ≤ g) (v : Value) : Mid w (wr.setCell ⟨g, c, none⟩ v) L z nb k :=
  ⟨h.below.setCell hg v, h.names.other hne v, h.new⟩
theorem Mid.drew {w wr : World} {L nb k : Nat} {z : Nat → Nat} (h : Mid w wr L z nb k) : Mid w wr.drew L z nb k := ⟨h.below.drew, h.names.drew, h.new⟩
/-- One cell more is told. -/
theorem Row.at_next {w : World} {g len n : Nat} {t : TypeId} {f : Nat → Value} (h : Row w g len t n f) (_hn : n < len) (hc : w.cell? ⟨g, n, none⟩ = Option.some (f n)) : Row w g len t (n + 1) f := by
  obtain ⟨cs, h, hs, hf⟩ := h
  refine ⟨cs, h, hs, fun d hd => ?_⟩
  rcases Nat.lt_or_ge d n with hl | hl
  · exact hf d hl
  · obtain rfl : d = n := by omega
    simpa [World.cell?, h] using hc
/-- A store behind what is told. -/
theorem Row.before {w : World} {g len n c : Nat} {t : TypeId} {f : Nat → Value} (h : Row w g len t n f) (hc : n ≤ c) (v : Value) : Row (w.setCell ⟨g, c, none⟩ v) g len t n f := by
  obtain ⟨cs, h, hs, hf⟩ := h
  refine ⟨_, blk_setCell h v, by simpa using hs, fun d hd => ?_⟩
  rw [Array.getElem?_setIfInBounds_ne (by omega)]; exact hf d hd

/-- NAMES, FIRST PLACES AND FLAGS ARE LAID; the flags hold 'o'. -/
structure Mid2 (w wr : World) (L : Nat) (z : Nat → Nat) (nb fb ob k : Nat) (o : Nat → Bool) : Prop where
  mid : Mid w wr L z nb k
  first : Row wr fb k 3 k (fun c => .int .i64 (Flip.fst z c))
  flags : Row wr ob k 4 k (fun f => .bool (o f))
  fnew : w.heap.size ≤ fb
  onew : w.heap.size ≤ ob
theorem Mid2.congr {w wr : World} {L nb fb ob k : Nat} {z : Nat → Nat} {o o' : Nat → Bool} (h : Mid2 w wr L z nb fb ob k o) (ho : ∀ f, o' f = o f) : Mid2 w wr L z nb fb ob k o' :=
  ⟨h.mid, h.first, h.flags.congr (fun c _ => by rw [ho c]), h.fnew, h.onew⟩
/-- One flag is turned. -/
theorem Mid2.turn {w wr : World} {L nb fb ob k f : Nat} {z : Nat → Nat} {o o' : Nat → Bool} {x : Bool} (h : Mid2 w wr L z nb fb ob k o) (hf : f < k) (ho : ∀ g, o' g = (o g ^^ (f == g))) (hx : o' f = x) :
    Mid2 w (wr.setCell ⟨ob, f, none⟩ (.bool x)) L z nb fb ob k o' := by
  have n1 := h.mid.names.ne h.flags (by decide)
  have n2 := h.first.ne h.flags (by decide)
  refine ⟨h.mid.store n1 h.onew _, h.first.other n2 _, h.flags.upd hf (by rw [hx]) (fun d hd => ?_), h.fnew, h.onew⟩
  rw [ho d, beq_eq_false_iff_ne.2 (Ne.symm hd), Bool.xor_false]
theorem Mid.bits {w wr : World} {nb k bb : Nat} {z : Nat → Nat} {cs : Array Value} (h : Mid w wr 0 z nb k) (hb : wr.heap.size = bb) (hs : cs = Array.replicate 64 (.bool false)) :
    Mid w (wr.alloc (.cells cs 37)) 0 z nb k ∧ Row (wr.alloc (.cells cs 37)) bb 64 37 64 (fun j => .bool (Flip.par (Flip.sc z 0) j)) ∧ w.heap.size ≤ bb := by
  subst hb
  subst hs
  refine ⟨⟨h.below.alloc h.below.size _, h.names.alloc _, h.new⟩, ⟨_, heap_alloc_new _ _, by simp, fun c hc => ?_⟩, h.below.size⟩
  rw [Array.getElem?_replicate, if_pos hc]; rfl
theorem want_lt {X j : Nat} (h : X < 2 ^ 64) : X / 2 ^ (j + 1) ≤ 9223372036854775807 := by
  have h1 : 2 ^ 1 ≤ 2 ^ (j + 1) := Nat.pow_le_pow_right (by decide) (by omega)
  have h2 : X / 2 ^ (j + 1) ≤ X / 2 ^ 1 := Nat.div_le_div_left h1 (by decide)
  omega
/-- One flag is let down. -/
theorem Mid2.down {w wr : World} {L nb fb ob k f : Nat} {z : Nat → Nat} {o o' : Nat → Bool} (h : Mid2 w wr L z nb fb ob k o) (hf : f < k) (ho : ∀ g, o' g = (o g && !(f == g))) :
    Mid2 w (wr.setCell ⟨ob, f, none⟩ (.bool false)) L z nb fb ob k o' := by
  have n1 := h.mid.names.ne h.flags (by decide)
  have n2 := h.first.ne h.flags (by decide)
  refine ⟨h.mid.store n1 h.onew _, h.first.other n2 _, h.flags.upd hf (by rw [ho f]; simp) (fun d hd => ?_), h.fnew, h.onew⟩
  rw [ho d, beq_eq_false_iff_ne.2 (Ne.symm hd)]; simp
theorem names_test {L A b k N : Nat} {z : Nat → Nat} (hA : A ≤ b) (hb : b ≤ k) (HN : Hid (64 * 2 ^ L = N)) (hz : ∀ c, c < k → z c < N) :
    ((Flip.nm L z b : Int) == (Flip.nm L z A : Int)) = ((Flip.cnt (Flip.odd z A b) k : Int) == 0) := by
  have h := Flip.names_law (L := L) hA hb (fun c hc => by rw [HN.out]; exact hz c hc)
  rw [Bool.eq_iff_iff, beq_iff_eq, beq_iff_eq]
  constructor
  · intro e; have := h.1 (by omega); omega
  · intro e; have := h.2 (by omega); omega
theorem Mid2.start {w wr w4 : World} {L nb fb k : Nat} {z : Nat → Nat} (h : Mid w wr L z nb k) (hF : Row wr fb k 3 k (fun c => .int .i64 (Flip.fst z c))) (hfb : w.heap.size ≤ fb)
    (hrow : w4.ownsRow w.heap.size 4 1 (.slice (some ⟨wr.heap.size, 0, none⟩) k k) k (madeCells (Value.bool false).cells (k * 1)).toList) (hg : wr.grownBy w4 none) :
    Mid2 w w4 L z nb fb wr.heap.size k (fun _ => false) ∧ True := by
  have r := row_made (z := .bool false) hrow
  exact ⟨⟨(h.made hrow hg (fun _ => .bool false)).1, hF.kept (hg.block _ hF.lt (by simp)), r, hfb, h.below.size⟩, trivial⟩

set_option maxRecDepth 100000 in
set_option maxHeartbeats 1000000 in
theorem names_walk (L len cap N : Nat) (a1 : Option Addr) (z : Nat → Nat) (w : World) (hr : ReadsN w a1 len z) (hz : ∀ c, c < len → z c < N) (hL : L ≤ 24) (hlen : len ≤ 4096) (HN : Hid (64 * 2 ^ L = N)) :
    Calls Try.prog 4 #[.int .i64 L, .slice a1 len cap] w fun e w' => e = .returned (.bool true) ∧ Below w.heap.size w w' := by
  have hw : wrap64 (64 * 2 ^ L) = (N : Int) := by rw [wrap_n hL, HN.out]
  have hN2 : N ≤ 1073741824 := by rw [← HN.out]; have : (2 ^ L : Nat) ≤ 2 ^ 24 := Nat.pow_le_pow_right (by decide) hL; omega
  have t0 : decide ((4096 : Int) < (len : Int)) = false := by simp; omega
  have t1 : decide ((L : Int) < 0) = false := by simp
  have t2 : decide ((24 : Int) < (L : Int)) = false := by simp; omega
  obtain ⟨i34, hi34, za0, za1, za2⟩ := info_parts Try.info34
  obtain ⟨i3, hi3, zb0, zb1, zb2⟩ := info_parts Try.info3
  obtain ⟨i4, hi4, zc0, zc1, zc2⟩ := info_parts Try.info4
  go_enter Try.func4, Try.ntmps4
  go_wp2
  go_loop [6] (fun bv => ∃ k : Nat, k ≤ len ∧ bv = .int .i64 k) (fun bv => len - (intOf bv).toNat)
  case atStart => exact ⟨0, Nat.zero_le _, rfl⟩
  case round =>
    obtain ⟨k, hk, rfl⟩ := hrel
    by_cases hlt : k < len
    · obtain ⟨b, off, ha, hb, hc⟩ := hr.at (Below.refl _ _) hlt
      have hck := hc k hlt
      have hzk := hz k hlt
      subst ha
      clear hc hr hz
      generalize z k = x at *
      have g1 : decide ((x : Int) < 0) = false := by simp
      have g2 : decide (N ≤ x) = false := by simp; omega
      go_wp2
      go_round
      case rel => exact ⟨k + 1, by omega, by go_num⟩
      case measure => simp [intOf]; omega
    · obtain rfl : k = len := by omega
      go_wp2_with (first
        | (go_at_call 9; refine (zznew_any L _).mono ?_; rintro e w' ⟨rfl, rfl⟩)
        | (at_make; refine wpList_make_full _ rfl _ _ 33 rfl w.heap.size 34 i34 (.int .u64 0) 1 Try.underlying33 hi34 za0 za1 .i64 .i64 k k k rfl rfl rfl rfl (by rw [za2]; omega) (by unfold maxLen; omega) (by simp) ?_; intro w2 hrow2 hgrow2))
      obtain ⟨hR, hS, hB⟩ := made_start hrow2 hgrow2 (fun c => .int .u64 (Flip.nm L z (c + 1)))
      clear hrow2 hgrow2 t0 t1 t2 hw
      have hw2 := hR.lt
      go_loopw [10, 11] (fun sv bv wr => ∃ m : Nat, m ≤ k ∧ bv = .int .i64 m ∧ sv = .int .u64 (Flip.nm L z m) ∧ Tabs wr w.heap.size w.heap.size L (Flip.run L (Flip.sc z m)).1 (fun q => q = w.heap.size ∨ w2.heap.size ≤ q) ∧ Below w.heap.size w wr ∧ w2.heap.size ≤ wr.heap.size ∧
          Row wr (w.heap.size + 1) k 34 m (fun c => .int .u64 (Flip.nm L z (c + 1)))) (fun _ bv _ => k - (intOf bv).toNat)
      case atStart => exact ⟨0, Nat.zero_le _, rfl, rfl, hS, hB, Nat.le_refl _, hR⟩
      case round =>
        clear hS hB hR
        obtain ⟨m, hm, rfl, rfl, hS, hbel, hsz, hR⟩ := hrel
        by_cases hlt2 : m < k
        · obtain ⟨i1, i2, i3, i4⟩ := sc_ran (k := m) hL (by omega) HN (fun q hq => hz q (by omega))
          obtain ⟨b, off, ha, hb, hc⟩ := hr.at hbel hlt2
          have hck := hc m hlt2
          have hx2 : z m < 64 * 2 ^ L := by rw [HN.out]; exact hz m hlt2
          have hxN := hz m hlt2
          subst ha
          have HS : Hid (Flip.run L (Flip.sc z (m + 1)) = Flip.flipN L (z m) (Flip.run L (Flip.sc z m)).1 (Flip.run L (Flip.sc z m)).2) := by rw [Flip.sc_succ]; exact Flip.run_snoc _ _ _
          have HM : Hid (Flip.nm L z (m + 1) = (Flip.run L (Flip.sc z (m + 1))).2) := rfl
          have HE : Hid (Flip.nm L z m = (Flip.run L (Flip.sc z m)).2) := rfl
          rw [HE.out]
          obtain ⟨cv, hcv⟩ := hR.has hlt2
          have hfr := hR.free m
          clear hc hr hz
          generalize Flip.run L (Flip.sc z m) = r at *
          generalize z m = x at *
          go_wp2_with (first | (go_at_call 10; refine (zzflip_any _ _ L r.2 x r.1 _ _ hS (Nat.le_refl _) hL hx2 i2 i1 (by omega) (by omega)).mono ?_; rintro e w3 ⟨rfl, hS2, ho2⟩; obtain ⟨hk3, hc3, hf3⟩ := row_step hR hcv ho2 hsz hw2))
          go_roundw
          case rel =>
            have hs3 := ho2.size
            refine ⟨m + 1, by omega, by go_num, by rw [HM.out, HS.out], ?_, ?_, ?_, ?_⟩
            · rw [HS.out]; exact (hS2.back2 hsz).setCell (by simp; omega) _
            · exact (ho2.bel2 hbel (by omega)).setCell (by simp) _
            · simp; omega
            · exact hk3.push hlt2 (by rw [HM.out, HS.out])
          case measure => simp [intOf]; omega
        · obtain rfl : m = k := by omega
          have hM : Mid w wr L z (w.heap.size + 1) m := ⟨hbel, hR, by omega⟩
          clear hS hbel hsz hR
          go_wp2_with (first
            | (at_make; refine wpList_make_full _ rfl _ _ 23 rfl w.heap.size 3 i3 (.int .i64 0) 1 Try.underlying23 hi3 zb0 zb1 .i64 .i64 m m m rfl rfl rfl rfl (by rw [zb2]; omega) (by unfold maxLen; omega) hM.below.size ?_; intro w3 hrow3 hgrow3))
          obtain ⟨hM3, hF3⟩ := hM.made hrow3 hgrow3 (fun c => .int .i64 (Flip.fst z c))
          clear hM hrow3 hgrow3
          generalize w.heap.size + 1 = nb at *
          generalize wr.heap.size = fb at *
          go_loopw [13] (fun bv wr => ∃ b : Nat, b ≤ m ∧ bv = .int .i64 b ∧ Mid w wr L z nb m ∧ Row wr fb m 3 b (fun c => .int .i64 (Flip.fst z c)) ∧ w.heap.size ≤ fb) (fun bv _ => m - (intOf bv).toNat)
          case atStart => exact ⟨0, Nat.zero_le _, rfl, hM3, hF3⟩
          case round =>
            clear hM3 hF3
            obtain ⟨b, hb, rfl, hM, hF, hfb⟩ := hrel
            by_cases hlt3 : b < m
            · obtain ⟨cv, hcv⟩ := hF.has hlt3
              have hfr := hF.free b
              have hne := hM.names.ne hF (by decide)
              go_wp2
              go_loopw [14] (fun av wr => ∃ a : Nat, a ≤ b ∧ av = .int .i64 a ∧ (∀ c, c < a → z c ≠ z b) ∧ Mid w wr L z nb m ∧ Row wr fb m 3 b (fun c => .int .i64 (Flip.fst z c)) ∧ wr.cell? ⟨fb, b, none⟩ = some (.int .i64 b)) (fun av _ => b - (intOf av).toNat)
              case atStart => exact ⟨0, Nat.zero_le _, rfl, fun c hc => by omega, hM.store hne (by omega) _, hF.before (Nat.le_refl _) _, World.cell?_setCell_same (h := hcv) ..⟩
              case round =>
                clear hM hF hcv hfr
                obtain ⟨a, ha, rfl, hmin, hM, hF, hcb⟩ := hrel
                by_cases hlt4 : a < b
                · obtain ⟨sb, so, hsa, hsb, hsc⟩ := hr.at hM.below hlt3
                  have hca := hsc a (by omega)
                  have hcc := hsc b hlt3
                  have hfr := hF.free b
                  subst hsa
                  by_cases heq : z a = z b
                  · have heq2 : ((z a : Int) == (z b : Int)) = true := beq_iff_eq.2 (by omega)
                    have Hfst : Hid (Flip.fst z b = a) := Flip.fst_of heq (fun c hc => hmin c hc)
                    clear hr hz hsc hmin heq
                    generalize z a = za at *
                    generalize z b = zb at *
                    go_wp2
                    go_region
                    go_wp2
                    go_roundw
                    case rel => exact ⟨b + 1, hlt3, by go_num, (hM.store hne hfb _).drew, (hF.push hlt3 (by rw [Hfst.out])).drew, hfb⟩
                    case measure => simp [intOf]; omega
                  · have heq2 : ((z a : Int) == (z b : Int)) = false := beq_eq_false_iff_ne.2 (by omega)
                    have Hmin : ∀ c, c < a + 1 → z c ≠ z b := fun c hc => by
                      rcases Nat.lt_or_ge c a with h | h
                      · exact hmin c h
                      · obtain rfl : c = a := by omega
                        exact heq
                    have HM : Hid (∀ c, c < a + 1 → z c ≠ z b) := Hmin
                    clear hr hz hsc hmin heq Hmin
                    generalize hza : z a = za at *
                    generalize hzb : z b = zb at *
                    clear hza hzb
                    go_wp2
                    go_region
                    go_wp2
                    go_roundw
                    case rel => exact ⟨a + 1, by omega, by go_num, HM.out, hM.drew, hF.drew, hcb⟩
                    case measure => simp [intOf]; omega
                · obtain rfl : a = b := by omega
                  have Hfst : Hid (Flip.fst z a = a) := Flip.fst_of rfl (fun c hc => hmin c hc)
                  clear hmin hz hr
                  go_wp2
                  go_roundw
                  case rel => exact ⟨a + 1, hlt3, by go_num, hM, hF.at_next hlt3 (by rw [Hfst.out]; exact hcb), hfb⟩
                  case measure => simp [intOf]; omega
            · obtain rfl : b = m := by omega
              go_wp2_with (first
                | (at_make; refine wpList_make_full _ rfl _ _ 36 rfl w.heap.size 4 i4 (.bool false) 1 Try.underlying36 hi4 zc0 zc1 .i64 .i64 b b b rfl rfl rfl rfl (by rw [zc2]; omega) (by unfold maxLen; omega) hM.below.size ?_; intro w4 hrow4 hgrow4))
              obtain ⟨hM4, hO4⟩ := Mid2.start hM hF hfb hrow4 hgrow4
              clear hM hF hrow4 hgrow4 hfb
              generalize wr.heap.size = ob at *
              go_loopg [16] (b + 1) (fun g av wr => ∃ A : Nat, A ≤ b + 1 ∧ g = b + 1 - A ∧ av = .int .i64 ((A : Int) - 1) ∧ Mid2 w wr L z nb fb ob b (fun _ => false))
              case atStart => exact ⟨0, Nat.zero_le _, rfl, rfl, hM4⟩
              case round =>
                clear hM4
                obtain ⟨A, hA, hgk, rfl, hM⟩ := hrel
                have HG : Hid (gk = b + 1 - A) := hgk
                clear hgk
                by_cases hlt5 : A ≤ b
                · go_upto_if 120 with (fail)
                  go_cut [17] from 114 to 171 (fun bs wc => bs = .int .u64 (Flip.nm L z A) ∧ Mid2 w wc L z nb fb ob b (fun _ => false))
                  case first =>
                    rcases Nat.eq_zero_or_pos A with hA0 | hA0
                    · have hd : decide ((1 : Int) ≤ (A : Int)) = false := by simp; omega
                      have HA : Hid (A = 0) := hA0
                      have hA1 : A < 1 := by omega
                      clear hA0
                      go_wp2
                      go_meet
                      case rel => exact ⟨by rw [HA.out]; rfl, hM⟩
                    · have hd : decide ((1 : Int) ≤ (A : Int)) = true := by simp; omega
                      have hcn : wr.cell? ⟨nb, A - 1, none⟩ = some (.int .u64 (Flip.nm L z A)) := by
                        have h := hM.mid.names.cell (c := A - 1) (by omega)
                        rw [show A - 1 + 1 = A from by omega] at h
                        exact h
                      go_wp2
                      go_meet
                      case rel => exact ⟨rfl, hM⟩
                  clear hM
                  obtain ⟨rfl, hM⟩ := hcut
                  have HO : Hid (Mid2 w wc L z nb fb ob b (Flip.odd z A A)) := hM.congr (fun f => Flip.odd_self z A f)
                  have HC0 : Hid (Flip.cnt (Flip.odd z A A) b = 0) := Flip.cnt_zero.2 (fun f _ => Flip.odd_self z A f)
                  clear hM
                  go_wp2
                  go_loopw [18, 19] (fun cv bv wr => ∃ q : Nat, A ≤ q ∧ q ≤ b ∧ bv = .int .i64 q ∧ cv = .int .i64 (Flip.cnt (Flip.odd z A q) b) ∧ Mid2 w wr L z nb fb ob b (Flip.odd z A q)) (fun _ bv _ => b - (intOf bv).toNat)
                  case atStart => exact ⟨A, Nat.le_refl _, hlt5, by go_num, by rw [HC0.out]; rfl, HO.out⟩
                  case round =>
                    clear HO HC0
                    obtain ⟨q, hAq, hqb, rfl, rfl, hM⟩ := hrel
                    by_cases hlt6 : q < b
                    · have hcf := hM.first.cell hlt6
                      have hcn := hM.mid.names.cell hlt6
                      have hfl : Flip.fst z q < b := Nat.lt_of_le_of_lt (Flip.fst_spec z q).1 hlt6
                      have hco := hM.flags.cell hfl
                      have hfro := hM.flags.free (Flip.fst z q)
                      have hT := names_test (L := L) (A := A) (b := q + 1) (k := b) (by omega) (by omega) HN hz
                      have hcs := Flip.cnt_succ (z := z) hAq hlt6
                      have hcl := Flip.cnt_le (Flip.odd z A q) b
                      have hne := hM.mid.names.ne hM.flags (by decide)
                      have HOd : Hid (∀ f, Flip.odd z A (q + 1) f = (Flip.odd z A q f ^^ (Flip.fst z q == f))) := Flip.odd_succ z hAq
                      have HN1 : Hid (∃ n, n = Flip.nm L z (q + 1)) := ⟨_, rfl⟩
                      clear hr hz HN1
                      generalize hc1 : Flip.cnt (Flip.odd z A (q + 1)) b = c1 at *
                      have HC1 : Hid (Flip.cnt (Flip.odd z A (q + 1)) b = c1) := hc1
                      clear hc1
                      generalize hf : Flip.fst z q = f at *
                      have HF : Hid (Flip.fst z q = f) := hf
                      clear hf
                      generalize Flip.nm L z (q + 1) = n1 at *
                      cases ho : Flip.odd z A q f
                      · rw [ho] at hco hcs
                        have HO1 : Hid (Flip.odd z A q f = false) := ho
                        have hc2 : ((Flip.cnt (Flip.odd z A q) b : Nat) : Int) + 1 = (c1 : Int) := by simp at hcs; omega
                        clear ho hcs
                        generalize Flip.cnt (Flip.odd z A q) b = c0 at *
                        go_wp2
                        go_roundw
                        case rel => exact ⟨q + 1, by omega, by omega, by go_num, by rw [HC1.out], hM.turn hfl HOd.out (by rw [HOd.out, HO1.out]; simp)⟩
                        case measure => simp [intOf]; omega
                      · rw [ho] at hco hcs
                        have HO1 : Hid (Flip.odd z A q f = true) := ho
                        have hc2 : ((Flip.cnt (Flip.odd z A q) b : Nat) : Int) - 1 = (c1 : Int) := by simp at hcs; omega
                        clear ho hcs
                        generalize Flip.cnt (Flip.odd z A q) b = c0 at *
                        go_wp2
                        go_roundw
                        case rel => exact ⟨q + 1, by omega, by omega, by go_num, by rw [HC1.out], hM.turn hfl HOd.out (by rw [HOd.out, HO1.out]; simp)⟩
                        case measure => simp [intOf]; omega
                    · obtain rfl : q = b := by omega
                      have HK : Hid (Mid2 w wr L z nb fb ob q (Flip.clr z A q A)) := hM.congr (fun f => Flip.clr_self z A q f)
                      clear hM
                      go_wp2
                      go_loopw [21] (fun bv wr => ∃ c : Nat, A ≤ c ∧ c ≤ q ∧ bv = .int .i64 c ∧ Mid2 w wr L z nb fb ob q (Flip.clr z A q c)) (fun bv _ => q - (intOf bv).toNat)
                      case atStart => exact ⟨A, Nat.le_refl _, hlt5, by go_num, HK.out⟩
                      case round =>
                        clear HK
                        obtain ⟨c, hAc, hcq, rfl, hM⟩ := hrel
                        by_cases hlt7 : c < q
                        · have hcf := hM.first.cell hlt7
                          have hfl : Flip.fst z c < q := Nat.lt_of_le_of_lt (Flip.fst_spec z c).1 hlt7
                          obtain ⟨ov, hco⟩ := hM.flags.has hfl
                          have hfro := hM.flags.free (Flip.fst z c)
                          have HCL : Hid (∀ f, Flip.clr z A q (c + 1) f = (Flip.clr z A q c f && !(Flip.fst z c == f))) := Flip.clr_succ z hAc
                          generalize hf : Flip.fst z c = f at *
                          clear hf hr hz
                          go_wp2
                          go_roundw
                          case rel => exact ⟨c + 1, by omega, by omega, by go_num, hM.down hfl HCL.out⟩
                          case measure => simp [intOf]; omega
                        · obtain rfl : c = q := by omega
                          have HK : Hid (Mid2 w wr L z nb fb ob c (fun _ => false)) := hM.congr (fun f => (Flip.clr_end z A c f).symm)
                          clear hM
                          go_wp2
                          go_roundg (c - A)
                          case measure => rw [HG.out]; omega
                          case rel => exact ⟨A + 1, by omega, by omega, by go_num, HK.out⟩
                · obtain rfl : A = b + 1 := by omega
                  by_cases hL0 : L = 0
                  · subst hL0
                    have hN64 : N = 64 := by rw [← HN.out]
                    have hz64 : ∀ c, c < b → z c < 64 := fun c hc => by rw [← hN64]; exact hz c hc
                    have hM1 := hM.mid
                    clear hz hN64 hM HN hN2
                    go_wp2
                    generalize hbb : wr.heap.size = bb at *
                    have HBB : Hid (wr.heap.size = bb) := hbb
                    clear hbb
                    go_loopw [23] (fun bv wr => ∃ c : Nat, c ≤ b ∧ bv = .int .i64 c ∧ Mid w wr 0 z nb b ∧ Row wr bb 64 37 64 (fun j => .bool (Flip.par (Flip.sc z c) j)) ∧ w.heap.size ≤ bb) (fun bv _ => b - (intOf bv).toNat)
                    case atStart => exact ⟨0, Nat.zero_le _, rfl, hM1.bits HBB.out rfl⟩
                    case round =>
                      clear hM1 HBB
                      obtain ⟨c, hcb, rfl, hM, hR, hbb⟩ := hrel
                      by_cases hlt8 : c < b
                      · obtain ⟨sb, so, hsa, hsb, hsc⟩ := hr.at hM.below hlt8
                        have hcs := hsc c hlt8
                        have hzc := hz64 c hlt8
                        have hcb2 := hR.cell hzc
                        have hfr := hR.free (z c)
                        have hne := hM.names.ne hR (by decide)
                        have hcn := hM.names.cell hlt8
                        have hX := Flip.nm_zero_lt (z := z) (b := c + 1) (fun q hq => hz64 q (by omega))
                        have HXb : Hid (∀ j, j < 64 → (Flip.nm 0 z (c + 1)).testBit j = Flip.par (Flip.sc z (c + 1)) j) := fun j hj => Flip.nm_zero_bit (fun q hq => hz64 q (by omega)) hj
                        have hM2 := hM.store (c := z c) hne hbb (.bool (!Flip.par (Flip.sc z c) (z c)))
                        have hR2 := hR.upd (f' := fun j => .bool (Flip.par (Flip.sc z (c + 1)) j)) hzc (v := .bool (!Flip.par (Flip.sc z c) (z c))) (by rw [Flip.sc_succ, Flip.par_snoc]; simp) (fun d hd => by rw [Flip.sc_succ, Flip.par_snoc, beq_eq_false_iff_ne.2 (Ne.symm hd), Bool.xor_false])
                        subst hsa
                        clear hsc
                        go_wp2
                        generalize wr.setCell ⟨bb, z c, none⟩ (.bool (!Flip.par (Flip.sc z c) (z c))) = wy at *
                        have hcn2 := hM2.names.cell hlt8
                        clear hcn hcb2 hcs hM hR hfr hr
                        have HX0 : Hid (Flip.nm 0 z (c + 1) / 2 ^ 64 = 0) := Nat.div_eq_of_lt hX
                        go_loop [25, 26] (fun wv jv => ∃ j : Nat, j ≤ 64 ∧ jv = .int .i64 ((j : Int) - 1) ∧ wv = .int .u64 ((Flip.nm 0 z (c + 1) / 2 ^ j : Nat))) (fun _ jv => (intOf jv + 1).toNat)
                        case atStart => exact ⟨64, Nat.le_refl _, rfl, by rw [HX0.out]; rfl⟩
                        case round =>
                          clear HX0
                          obtain ⟨j, hj, rfl, rfl⟩ := hrel
                          by_cases hj0 : 0 < j
                          · obtain ⟨j, rfl⟩ : ∃ q, j = q + 1 := ⟨j - 1, by omega⟩
                            have hcj := hR2.cell (c := j) (by omega)
                            have hst := Flip.want_step (Flip.nm 0 z (c + 1)) j
                            have hY := want_lt (j := j) hX
                            rw [HXb.out j (by omega)] at hst
                            have ej : ((j + 1 : Nat) : Int) - 1 = (j : Int) := by omega
                            rw [ej]
                            generalize hy1 : Flip.nm 0 z (c + 1) / 2 ^ (j + 1) = y1 at *
                            generalize hy0 : Flip.nm 0 z (c + 1) / 2 ^ j = y0 at *
                            have HY0 : Hid (Flip.nm 0 z (c + 1) / 2 ^ j = y0) := hy0
                            clear hy1 hy0 ej
                            cases hp : Flip.par (Flip.sc z (c + 1)) j
                            · rw [hp] at hcj hst
                              have hst2 : (y1 : Int) * 2 = (y0 : Int) := by simp at hst; omega
                              clear hp hst
                              go_wp2
                              go_round
                              case rel => exact ⟨j, by omega, by go_num, by rw [HY0.out]⟩
                              case measure => simp [intOf]
                            · rw [hp] at hcj hst
                              have hst2 : (y1 : Int) * 2 + 1 = (y0 : Int) := by simp at hst; omega
                              clear hp hst
                              go_wp2
                              go_round
                              case rel => exact ⟨j, by omega, by go_num, by rw [HY0.out]⟩
                              case measure => simp [intOf]
                          · obtain rfl : j = 0 := by omega
                            have hone : Flip.nm 0 z (c + 1) / 2 ^ 0 = Flip.nm 0 z (c + 1) := by simp
                            rw [hone]
                            clear hone
                            generalize Flip.nm 0 z (c + 1) = X at *
                            go_wp2
                            go_roundw
                            case rel => exact ⟨c + 1, by omega, by go_num, hM2, hR2, hbb⟩
                            case measure => simp [intOf]; omega
                      · go_wp2
                        go_ret
                        exact ⟨rfl, hM.below⟩
                  · have hL1 : ((L : Int) == 0) = false := beq_eq_false_iff_ne.2 (by omega)
                    go_wp2
                    go_ret
                    exact ⟨rfl, hM.mid.below⟩

set_option maxRecDepth 100000 in
/-- A member out of range: the law says true at once. -/
theorem names_bad (L len cap N m : Nat) (a1 : Option Addr) (zs : List Int) (w : World) (hr : Reads w a1 len zs) (hL : L ≤ 24) (hlen : len ≤ 4096) (HN : Hid (64 * 2 ^ L = N)) (hm : m < len) (hlo : ∀ c, c < m → 0 ≤ zs.getD c 0 ∧ zs.getD c 0 < N) (hbad : zs.getD m 0 < 0 ∨ (N : Int) ≤ zs.getD m 0) :
    Calls Try.prog 4 #[.int .i64 L, .slice a1 len cap] w fun e w' => e = .returned (.bool true) ∧ Below w.heap.size w w' := by
  have hw : wrap64 (64 * 2 ^ L) = (N : Int) := by rw [wrap_n hL, HN.out]
  have t0 : decide ((4096 : Int) < (len : Int)) = false := by simp; omega
  have t1 : decide ((L : Int) < 0) = false := by simp
  have t2 : decide ((24 : Int) < (L : Int)) = false := by simp; omega
  go_enter Try.func4, Try.ntmps4
  go_wp2
  go_loop [6] (fun bv => ∃ k : Nat, k ≤ m ∧ bv = .int .i64 k) (fun bv => len - (intOf bv).toNat)
  case atStart => exact ⟨0, Nat.zero_le _, rfl⟩
  case round =>
    obtain ⟨k, hk, rfl⟩ := hrel
    obtain ⟨b, off, ha, hb, hc⟩ := hr k (by omega)
    subst ha
    by_cases hlt : k < m
    · obtain ⟨h1, h2⟩ := hlo k hlt
      generalize zs.getD k 0 = x at *
      have g1 : decide (x < 0) = false := by simp; omega
      have g2 : decide ((N : Int) ≤ x) = false := by simp; omega
      clear hr hlo hbad
      go_wp2
      go_round
      case rel => exact ⟨k + 1, by omega, by go_num⟩
      case measure => simp [intOf]; omega
    · obtain rfl : k = m := by omega
      generalize zs.getD k 0 = x at *
      clear hr hlo
      by_cases h1 : x < 0
      · go_wp2
        go_ret
        exact ⟨rfl, Below.refl _ _⟩
      · have g1 : decide (x < 0) = false := by simp; omega
        have g2 : decide ((N : Int) ≤ x) = true := by simp; omega
        clear hbad
        go_wp2
        go_ret
        exact ⟨rfl, Below.refl _ _⟩
end Go.Proofs.Qxb6619265a

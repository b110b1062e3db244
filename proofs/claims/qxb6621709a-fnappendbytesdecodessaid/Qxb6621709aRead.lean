/-
  zzHasPrefixB1, zzReadUvarintB1, zzReadBytesB1.
-/
import Derived.Test.Qxb6621709aAppend
import Derived.Deep.RegionWith
import Derived.Lib.VarintBits
namespace Go.Proofs.Qxb6621709a
open Go.RowKit Go.Maps

/-- No block turned. -/
def Still (w w' : World) : Prop := ∀ B, Below B w w'
theorem Still.refl (w : World) : Still w w := fun B => Below.refl B w
theorem Still.trans {a b c : World} (h : Still a b) (h' : Still b c) : Still a c := fun B => (h B).trans (h' B)
theorem Still.drew {a b : World} (h : Still a b) : Still a b.drew := fun B => (h B).drew
theorem Still.cell {a b : World} (h : Still a b) (p : Addr) : b.cell? p = a.cell? p := (h (p.block + 1)).cell (Nat.lt_succ_self _)
theorem Reads8.still {a b : World} {g : Nat} {l : List UInt8} (h : Reads8 a g l) (hs : Still a b) : Reads8 b g l := fun j c hj => by rw [hs.cell]; exact h j c hj

theorem same_ne (c : UInt8) : (((c.toNat : Nat) : Int) != ((c.toNat : Nat) : Int)) = false := by simp

set_option maxHeartbeats 400000 in
theorem prefix_some (g cap N k0 n : Nat) (lo lb : List UInt8) (w : World) (hn : lb.length = n) (hle : n ≤ N) (hb : N ≤ 4194304) (hR : Reads8 w g lo) (hP : Reads8 w k0 lb) (hpre : ∀ (j : Nat) (c : UInt8), lb[j]? = some c → lo[j]? = some c) :
    Calls Try.prog 7 #[.slice (some ⟨g, 0, none⟩) N cap, .slice (some ⟨k0, 0, none⟩) n n] w fun e w' => e = .returned (.bool true) ∧ Still w w' := by
  have HN : Hid (lb.length = n) := hn
  have HP : Hid (Reads8 w k0 lb) := hP
  have HR : Hid (Reads8 w g lo) := hR
  have HPRE : Hid (∀ (j : Nat) (c : UInt8), lb[j]? = some c → lo[j]? = some c) := hpre
  clear hn hP hR hpre
  go_enter Try.func7, Try.ntmps7
  go_wp2
  go_loopw [5] (fun iv wr => ∃ k : Nat, k ≤ n ∧ iv = .int .i64 k ∧ Still w wr) (fun iv _ => n - (intOf iv).toNat)
  case atStart => exact ⟨0, Nat.zero_le _, rfl, Still.refl w⟩
  case round =>
    obtain ⟨k, hk, rfl, hS⟩ := hrel
    have HS : Hid (Still w wr) := hS
    clear hS
    by_cases hlt : k < n
    · obtain ⟨c, hk2⟩ : ∃ c, lb[k]? = some c := ⟨_, List.getElem?_eq_getElem (by rw [HN.out]; exact hlt)⟩
      have c1 := (HP.out.still HS.out) k _ hk2
      have c2 := (HR.out.still HS.out) k _ (HPRE.out k _ hk2)
      clear hk2
      have hkN : k < N := by omega
      have ht := same_ne c
      go_wp2
      go_region
      all_goals go_wp2
      go_roundw
      case rel => exact ⟨k + 1, hlt, by go_num, HS.out.drew⟩
      case measure => simp [intOf]; omega
    · obtain rfl : k = n := by omega
      go_wp2
      go_ret
      exact ⟨rfl, HS.out⟩

theorem prefix_nil (g cap N : Nat) (w : World) :
    Calls Try.prog 7 #[.slice (some ⟨g, 0, none⟩) N cap, .slice none 0 0] w fun e w' => e = .returned (.bool true) ∧ Still w w' := by
  go_enter Try.func7, Try.ntmps7
  go_wp2
  go_loop [5] (fun iv => iv = .int .i64 0) (fun _ => 0)
  case atStart => rfl
  case round =>
    subst hrel
    go_wp2
    go_ret
    exact ⟨rfl, Still.refl w⟩

theorem Has.reads {w : World} {g : Nat} {l : List UInt8} (h : Row w g l.length 5 l.length (byteAt l)) : Reads8 w g l := fun j c hj => by
  rw [h.cell (List.getElem?_eq_some_iff.1 hj).1, byteAt_of hj]

theorem prefix_any (g cap : Nat) (lb r : List UInt8) (oB : Option Addr) (w : World) (hb : (lb ++ r).length ≤ 4194304) (hR : Reads8 w g (lb ++ r)) (hB : Has w oB lb) :
    Calls Try.prog 7 #[.slice (some ⟨g, 0, none⟩) (lb ++ r).length cap, .slice oB lb.length lb.length] w fun e w' => e = .returned (.bool true) ∧ Still w w' := by
  rcases hB with ⟨rfl, rfl⟩ | ⟨k0, rfl, h⟩
  · exact prefix_nil g cap _ w
  · refine prefix_some g cap _ k0 _ (lb ++ r) lb w rfl (by simp) hb hR (Has.reads h) ?_
    intro j c hj
    rw [List.getElem?_append_left (List.getElem?_eq_some_iff.1 hj).1]; exact hj

theorem u8_nat {x : Nat} (h : x < 256) : (x.toUInt8.toNat : Nat) = x := by
  show x % 256 = x
  omega

/-- The three bytes at most of a number below 2097152. -/
theorem uv_bytes {x : Nat} (hx : x < 2097152) {i : Nat} {lo : List UInt8} (hi : ∀ (j : Nat) (c : UInt8), (Lib.uvarint x)[j]? = some c → lo[i + j]? = some c) {w : World} {g : Nat} (hR : Reads8 w g lo) :
    (x < 128 ∧ (Lib.uvarint x).length = 1 ∧ w.cell? ⟨g, i, none⟩ = some (.int .u8 (x : Nat)) ∧ i < lo.length) ∨
    (128 ≤ x ∧ x < 16384 ∧ (Lib.uvarint x).length = 2 ∧ w.cell? ⟨g, i, none⟩ = some (.int .u8 (x % 128 + 128 : Nat)) ∧ w.cell? ⟨g, i + 1, none⟩ = some (.int .u8 (x / 128 : Nat)) ∧ i + 1 < lo.length) ∨
    (16384 ≤ x ∧ (Lib.uvarint x).length = 3 ∧ w.cell? ⟨g, i, none⟩ = some (.int .u8 (x % 128 + 128 : Nat)) ∧ w.cell? ⟨g, i + 1, none⟩ = some (.int .u8 (x / 128 % 128 + 128 : Nat)) ∧ w.cell? ⟨g, i + 2, none⟩ = some (.int .u8 (x / 128 / 128 : Nat)) ∧ i + 2 < lo.length) := by
  have cell : ∀ (j v : Nat), v < 256 → (Lib.uvarint x)[j]? = some v.toUInt8 → w.cell? ⟨g, i + j, none⟩ = some (.int .u8 (v : Nat)) ∧ i + j < lo.length := by
    intro j v hv hj
    have h := hi j _ hj
    have h2 := hR _ _ h
    rw [u8_nat hv] at h2
    exact ⟨h2, (List.getElem?_eq_some_iff.1 h).1⟩
  by_cases h1 : x < 128
  · have e := Lib.uvarint_small h1
    refine .inl ⟨h1, by rw [e]; rfl, (cell 0 x (by omega) (by rw [e]; rfl)).1, (cell 0 x (by omega) (by rw [e]; rfl)).2⟩
  · have e1 := Lib.uvarint_big (x := x) (by omega)
    by_cases h2 : x < 16384
    · have e2 := Lib.uvarint_small (x := x / 128) (by omega)
      rw [e2] at e1
      refine .inr (.inl ⟨by omega, h2, by rw [e1]; rfl, (cell 0 _ (by omega) (by rw [e1]; rfl)).1, (cell 1 _ (by omega) (by rw [e1]; rfl)).1, (cell 1 (x / 128) (by omega) (by rw [e1]; rfl)).2⟩)
    · have e2 := Lib.uvarint_big (x := x / 128) (by omega)
      have e3 := Lib.uvarint_small (x := x / 128 / 128) (by omega)
      rw [e2, e3] at e1
      refine .inr (.inr ⟨by omega, by rw [e1]; rfl, (cell 0 _ (by omega) (by rw [e1]; rfl)).1, (cell 1 _ (by omega) (by rw [e1]; rfl)).1, (cell 2 _ (by omega) (by rw [e1]; rfl)).1, (cell 2 (x / 128 / 128) (by omega) (by rw [e1]; rfl)).2⟩)

set_option maxHeartbeats 1000000 in
set_option maxRecDepth 100000 in
/-- One byte. -/
theorem uv_one (g cap N i x : Nat) (w : World) (hb : N ≤ 4194304) (hx : x < 128) (hi : i < N) (h0 : w.cell? ⟨g, i, none⟩ = some (.int .u8 (x : Nat))) :
    Calls Try.prog 10 #[.slice (some ⟨g, 0, none⟩) N cap, .int .i64 i] w fun e w' => e = .returned (.tuple #[.int .u64 x, .int .i64 ((i + 1 : Nat) : Int), .bool true]) ∧ w' = w := by
  have ho : bits .or .u64 0 (x : Int) = x := by rw [u64_orv0 _ _ (by omega) (by omega) (by omega) (by omega) (by omega)]; omega
  go_enter Try.func10, Try.ntmps10
  go_wp2
  go_loop [1, 7, 8, 9] (fun iv xv sv kv => iv = .int .i64 i ∧ xv = .int .u64 0 ∧ sv = .int .u64 0 ∧ kv = .int .i64 0) (fun _ _ _ _ => 0)
  case atStart => exact ⟨rfl, rfl, rfl, rfl⟩
  case round =>
    obtain ⟨rfl, rfl, rfl, rfl⟩ := hrel
    go_wp2
    go_ret3
    exact ⟨rfl, rfl⟩

theorem and127 {d : Nat} (h : d < 128) : bits .and .u8 ((d : Int) + 128) 127 = d := by
  rw [u8_and127 _ (by omega) (by omega)]; omega
theorem or0 {d : Nat} (h : d < 2097152) : bits .or .u64 0 (d : Int) = d := by
  rw [u64_orv0 _ _ (by omega) (by omega) (by omega) (by omega) (by omega)]; omega
theorem or7 {a d : Nat} (ha : a < 128) (h : d < 2097152) : bits .or .u64 (a : Int) ((d : Int) * 128) = ((a + d * 128 : Nat) : Int) := by
  rw [u64_orv7 _ _ (by omega) (by omega) (by omega) (by omega) (by omega)]; omega
theorem or14 {a d : Nat} (ha : a < 16384) (h : d < 2097152) : bits .or .u64 (a : Int) ((d : Int) * 16384) = ((a + d * 16384 : Nat) : Int) := by
  rw [u64_orv14 _ _ (by omega) (by omega) (by omega) (by omega) (by omega)]; omega

set_option maxHeartbeats 2000000 in
set_option maxRecDepth 100000 in
/-- Two bytes. -/
theorem uv_two (g cap N i a b : Nat) (w : World) (hb : N ≤ 4194304) (ha : a < 128) (hb1 : 0 < b) (hb2 : b < 128) (hi : i + 1 < N) (h0 : w.cell? ⟨g, i, none⟩ = some (.int .u8 (a + 128 : Nat))) (h1 : w.cell? ⟨g, i + 1, none⟩ = some (.int .u8 (b : Nat))) :
    Calls Try.prog 10 #[.slice (some ⟨g, 0, none⟩) N cap, .int .i64 i] w fun e w' => e = .returned (.tuple #[.int .u64 ((a + b * 128 : Nat) : Int), .int .i64 ((i + 2 : Nat) : Int), .bool true]) ∧ w' = w := by
  have e1 := and127 ha
  have e2 := or0 (d := a) (by omega)
  have e3 := or7 (d := b) ha (by omega)
  go_enter Try.func10, Try.ntmps10
  go_wp2
  go_loop [1, 7, 8, 9] (fun iv xv sv kv => (iv = .int .i64 i ∧ xv = .int .u64 0 ∧ sv = .int .u64 0 ∧ kv = .int .i64 0) ∨ (iv = .int .i64 ((i : Int) + 1) ∧ xv = .int .u64 (a : Int) ∧ sv = .int .u64 7 ∧ kv = .int .i64 1)) (fun _ _ _ kv => 3 - (intOf kv).toNat)
  case atStart => exact .inl ⟨rfl, rfl, rfl, rfl⟩
  case round =>
    rcases hrel with ⟨rfl, rfl, rfl, rfl⟩ | ⟨rfl, rfl, rfl, rfl⟩
    · go_wp2
      go_round
      case rel => exact .inr ⟨rfl, rfl, rfl, rfl⟩
      case measure => decide
    · go_wp2
      go_ret3
      exact ⟨rfl, rfl⟩

set_option maxHeartbeats 2000000 in
set_option maxRecDepth 100000 in
/-- Three bytes. -/
theorem uv_three (g cap N i a b c : Nat) (w : World) (hb : N ≤ 4194304) (ha : a < 128) (hb2 : b < 128) (hc1 : 0 < c) (hc2 : c < 128) (hi : i + 2 < N) (h0 : w.cell? ⟨g, i, none⟩ = some (.int .u8 (a + 128 : Nat))) (h1 : w.cell? ⟨g, i + 1, none⟩ = some (.int .u8 (b + 128 : Nat))) (h2 : w.cell? ⟨g, i + 2, none⟩ = some (.int .u8 (c : Nat))) :
    Calls Try.prog 10 #[.slice (some ⟨g, 0, none⟩) N cap, .int .i64 i] w fun e w' => e = .returned (.tuple #[.int .u64 ((a + b * 128 + c * 16384 : Nat) : Int), .int .i64 ((i + 3 : Nat) : Int), .bool true]) ∧ w' = w := by
  have e1 := and127 ha
  have e1' := and127 hb2
  have e2 := or0 (d := a) (by omega)
  have e3 := or7 (d := b) ha (by omega)
  obtain ⟨s, hs⟩ : ∃ s, a + b * 128 = s := ⟨_, rfl⟩
  have hs2 : s < 16384 := by omega
  have e4 := or14 (d := c) hs2 (by omega)
  rw [hs] at e3 ⊢
  clear hs
  go_enter Try.func10, Try.ntmps10
  go_wp2
  go_loop [1, 7, 8, 9] (fun iv xv sv kv => (iv = .int .i64 i ∧ xv = .int .u64 0 ∧ sv = .int .u64 0 ∧ kv = .int .i64 0) ∨ (iv = .int .i64 ((i : Int) + 1) ∧ xv = .int .u64 (a : Int) ∧ sv = .int .u64 7 ∧ kv = .int .i64 1) ∨ (iv = .int .i64 ((i : Int) + 2) ∧ xv = .int .u64 (s : Int) ∧ sv = .int .u64 14 ∧ kv = .int .i64 2)) (fun _ _ _ kv => 3 - (intOf kv).toNat)
  case atStart => exact .inl ⟨rfl, rfl, rfl, rfl⟩
  case round =>
    rcases hrel with ⟨rfl, rfl, rfl, rfl⟩ | ⟨rfl, rfl, rfl, rfl⟩ | ⟨rfl, rfl, rfl, rfl⟩
    · go_wp2
      go_round
      case rel => exact .inr (.inl ⟨rfl, rfl, rfl, rfl⟩)
      case measure => decide
    · go_wp2
      go_round
      case rel => exact .inr (.inr ⟨by go_num, rfl, rfl, rfl⟩)
      case measure => decide
    · go_wp2
      go_ret3
      exact ⟨rfl, rfl⟩

theorem uv_any (g cap i x : Nat) (lo : List UInt8) (w : World) (hb : lo.length ≤ 4194304) (hx : x < 2097152) (hi : ∀ (j : Nat) (c : UInt8), (Lib.uvarint x)[j]? = some c → lo[i + j]? = some c) (hR : Reads8 w g lo) :
    Calls Try.prog 10 #[.slice (some ⟨g, 0, none⟩) lo.length cap, .int .i64 i] w fun e w' => e = .returned (.tuple #[.int .u64 x, .int .i64 ((i + (Lib.uvarint x).length : Nat) : Int), .bool true]) ∧ w' = w := by
  rcases uv_bytes hx hi hR with ⟨h1, h2, h3, h4⟩ | ⟨h1, h2, h3, h4, h5, h6⟩ | ⟨h1, h3, h4, h5, h6, h7⟩
  · rw [h2]
    exact uv_one g cap lo.length i x w hb h1 h4 h3
  · rw [h3]
    have h := uv_two g cap lo.length i (x % 128) (x / 128) w hb (by omega) (by omega) (by omega) h6 h4 h5
    rw [show x % 128 + x / 128 * 128 = x from by omega] at h
    exact h
  · rw [h3]
    have h := uv_three g cap lo.length i (x % 128) (x / 128 % 128) (x / 128 / 128) w hb (by omega) (by omega) (by omega) (by omega) h7 h4 h5 h6
    rw [show x % 128 + x / 128 % 128 * 128 + x / 128 / 128 * 16384 = x from by omega] at h
    exact h

set_option maxHeartbeats 1000000 in
set_option maxRecDepth 100000 in
theorem rb_nil (g cap i : Nat) (lo : List UInt8) (w : World) (hb : lo.length ≤ 4194304) (hi : ∀ (j : Nat) (c : UInt8), (Lib.uvarint 0)[j]? = some c → lo[i + j]? = some c) (hR : Reads8 w g lo) :
    Calls Try.prog 8 #[.slice (some ⟨g, 0, none⟩) lo.length cap, .int .i64 i, .slice none 0 0] w fun e w' => e = .returned (.tuple #[.int .i64 ((i + 1 : Nat) : Int), .bool true]) ∧ Still w w' := by
  have H : ∀ v : World, Reads8 v g lo → Hid (Calls Try.prog 10 #[.slice (some ⟨g, 0, none⟩) lo.length cap, .int .i64 i] v fun e w' => e = .returned (.tuple #[.int .u64 0, .int .i64 ((i + 1 : Nat) : Int), .bool true]) ∧ w' = v) := by
    intro v hv
    have h := uv_any g cap i 0 lo v hb (by omega) hi hv
    rw [show (Lib.uvarint 0).length = 1 from by rw [Lib.uvarint_small (by omega)]; rfl] at h
    exact h
  have ke := nil_is
  have HR : Hid (Reads8 w g lo) := hR
  clear hR hi
  generalize lo.length = N at *
  go_enter Try.func8, Try.ntmps8
  go_wp2_with fail
  refine (H _ HR.out).out.mono ?_
  rintro e w' ⟨rfl, rfl⟩
  go_wp2
  go_ret2
  exact ⟨rfl, Still.refl _⟩

set_option maxHeartbeats 2000000 in
set_option maxRecDepth 100000 in
theorem rb_some (g cap i J n k0 : Nat) (lo lp : List UInt8) (w : World) (hb : lo.length ≤ 4194304) (hn : lp.length = n) (hJ : J = i + (Lib.uvarint (n + 1)).length) (hN : lo.length = J + n) (hn2 : n ≤ 1048576) (hi : ∀ (j : Nat) (c : UInt8), (Lib.uvarint (n + 1))[j]? = some c → lo[i + j]? = some c)
    (hp : ∀ (j : Nat) (c : UInt8), lp[j]? = some c → lo[J + j]? = some c) (hR : Reads8 w g lo) (hP : Reads8 w k0 lp) :
    Calls Try.prog 8 #[.slice (some ⟨g, 0, none⟩) lo.length cap, .int .i64 i, .slice (some ⟨k0, 0, none⟩) n n] w fun e w' => e = .returned (.tuple #[.int .i64 (lo.length : Int), .bool true]) ∧ Still w w' := by
  have H : ∀ v : World, Reads8 v g lo → Hid (Calls Try.prog 10 #[.slice (some ⟨g, 0, none⟩) lo.length cap, .int .i64 i] v fun e w' => e = .returned (.tuple #[.int .u64 ((n + 1 : Nat) : Int), .int .i64 (J : Int), .bool true]) ∧ w' = v) := by
    intro v hv
    have h := uv_any g cap i (n + 1) lo v hb (by omega) hi hv
    rw [← hJ] at h
    exact h
  have ke := nil_is
  have HN : Hid (lp.length = n) := hn
  have HR : Hid (Reads8 w g lo) := hR
  have HP : Hid (Reads8 w k0 lp) := hP
  have HX : Hid (∀ (j : Nat) (c : UInt8), lp[j]? = some c → lo[J + j]? = some c) := hp
  clear hR hi hJ hP hp hn
  obtain ⟨N, hNN⟩ : ∃ N, lo.length = N := ⟨_, rfl⟩
  rw [hNN] at hb hN H ⊢
  clear hNN
  subst hN
  go_enter Try.func8, Try.ntmps8
  go_wp2_with fail
  refine (H _ HR.out).out.mono ?_
  rintro e w' ⟨rfl, rfl⟩
  clear H
  have d1 : decide (((J + n : Nat) : Int) - (J : Int) < (n : Int)) = false := decide_eq_false (by omega)
  go_wp2
  go_loopw [11] (fun kv wr => ∃ k : Nat, k ≤ n ∧ kv = .int .i64 k ∧ Still w' wr) (fun kv _ => n - (intOf kv).toNat)
  case atStart => exact ⟨0, Nat.zero_le _, rfl, Still.refl _⟩
  case round =>
    obtain ⟨k, hk, rfl, hS⟩ := hrel
    have HS : Hid (Still w' wr) := hS
    clear hS
    by_cases hlt : k < n
    · obtain ⟨c, hk2⟩ : ∃ c, lp[k]? = some c := ⟨_, List.getElem?_eq_getElem (by rw [HN.out]; exact hlt)⟩
      have c1 := (HP.out.still HS.out) k _ hk2
      have c2 := (HR.out.still HS.out) (J + k) _ (HX.out k _ hk2)
      clear hk2
      have ht := same_ne c
      go_wp2
      go_region
      all_goals go_wp2
      go_roundw
      case rel => exact ⟨k + 1, hlt, by go_num, HS.out.drew⟩
      case measure => simp [intOf]; omega
    · obtain rfl : k = n := by omega
      go_wp2
      go_ret2
      exact ⟨rfl, HS.out⟩
end Go.Proofs.Qxb6621709a

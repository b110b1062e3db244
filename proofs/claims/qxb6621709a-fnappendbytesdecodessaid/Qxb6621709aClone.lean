/-
  Slices of bytes in memory; zzBytes and zzCloneBytesB1.
-/
import Derived.Test.Qxb6621709aRows
import Derived.Lib.VarintMem
import Derived.Deep.AppendLies
import Derived.Maps.AppendAt
import Derived.OwnWalk
import Derived.WalkKit
import Derived.WalkLawsBesides
import Derived.OneCell
namespace Go.Proofs.Qxb6621709a
open Go.RowKit Go.Maps

theorem blk_cell {w : World} {b o : Nat} {cs : Array Value} {t : TypeId} {v : Value} (h : w.heap[b]? = some (.cells cs t (0, 0))) (hv : cs[o]? = some v) : w.cell? ⟨b, o, none⟩ = some v := by
  simp [World.cell?, h, hv]
theorem blk_free {w : World} {b : Nat} {cs : Array Value} {t : TypeId} (h : w.heap[b]? = some (.cells cs t (0, 0))) (o : Nat) : w.frozen? ⟨b, o, none⟩ = false := by
  simp [World.frozen?, h]
theorem blk_setCell {w : World} {b o : Nat} {cs : Array Value} {t : TypeId} (h : w.heap[b]? = some (.cells cs t (0, 0))) (v : Value) : (w.setCell ⟨b, o, none⟩ v).heap[b]? = some (.cells (cs.setIfInBounds o v) t (0, 0)) := by
  have hlt := lt_of_block h
  have h' : w.heap[b] = .cells cs t (0, 0) := by simpa [Array.getElem?_eq_getElem hlt] using h
  show (w.heap.modify b _)[b]? = _
  rw [Array.getElem?_eq_getElem (by simpa using hlt), Array.getElem_modify_self, h']
  rfl

/-- BLOCK g IS A ROW OF 'len' CELLS (elements of type t), THE FIRST n OF WHICH HOLD f. -/
def Row (w : World) (g len : Nat) (t : TypeId) (n : Nat) (f : Nat → Value) : Prop :=
  ∃ cs : Array Value, w.heap[g]? = some (.cells cs t (0, 0)) ∧ cs.size = len ∧ ∀ c, c < n → cs[c]? = some (f c)

section
variable {w w' : World} {g len n : Nat} {t : TypeId} {f : Nat → Value}
theorem Row.lt (h : Row w g len t n f) : g < w.heap.size := by obtain ⟨cs, h, _⟩ := h; exact lt_of_block h
theorem Row.cell (h : Row w g len t n f) {c : Nat} (hc : c < n) : w.cell? ⟨g, c, none⟩ = some (f c) := by
  obtain ⟨cs, h, _, hf⟩ := h; exact blk_cell h (hf c hc)
theorem Row.has (h : Row w g len t n f) {c : Nat} (hc : c < len) : ∃ v, w.cell? ⟨g, c, none⟩ = .some v := by
  obtain ⟨cs, h, hs, _⟩ := h; exact ⟨_, blk_cell h (Array.getElem?_eq_getElem (by omega))⟩
theorem Row.free (h : Row w g len t n f) (c : Nat) : w.frozen? ⟨g, c, none⟩ = false := by
  obtain ⟨cs, h, _⟩ := h; exact blk_free h c
theorem Row.kept (h : Row w g len t n f) (hk : w'.heap[g]? = w.heap[g]?) : Row w' g len t n f := by
  obtain ⟨cs, h, r⟩ := h; exact ⟨cs, hk.trans h, r⟩
theorem Row.alloc (h : Row w g len t n f) (o : Obj) : Row (w.alloc o) g len t n f := h.kept (Below.heap_alloc _ _ _ h.lt)
theorem Row.drew (h : Row w g len t n f) : Row w.drew g len t n f := h
theorem Row.other (h : Row w g len t n f) {a : Addr} (ha : g ≠ a.block) (v : Value) : Row (w.setCell a v) g len t n f := h.kept (Below.heap_setCell _ _ _ _ ha)
theorem Row.push (h : Row w g len t n f) (hn : n < len) {v : Value} (hv : v = f n) : Row (w.setCell ⟨g, n, none⟩ v) g len t (n + 1) f := by
  obtain ⟨cs, h, hs, hf⟩ := h
  refine ⟨_, blk_setCell h v, by simpa using hs, fun c hc => ?_⟩
  by_cases e : c = n
  · subst e; rw [Array.getElem?_setIfInBounds_self_of_lt (by omega), hv]
  · rw [Array.getElem?_setIfInBounds_ne (by omega)]; exact hf c (by omega)
theorem Row.upd (h : Row w g len t n f) {c : Nat} (hc : c < len) {v : Value} {f' : Nat → Value} (hv : v = f' c) (hf' : ∀ d, d ≠ c → f' d = f d) : Row (w.setCell ⟨g, c, none⟩ v) g len t n f' := by
  obtain ⟨cs, h, hs, hf⟩ := h
  refine ⟨_, blk_setCell h v, by simpa using hs, fun d hd => ?_⟩
  by_cases e : d = c
  · subst e; rw [Array.getElem?_setIfInBounds_self_of_lt (by omega), hv]
  · rw [Array.getElem?_setIfInBounds_ne (by omega), hf' d e]; exact hf d hd
theorem Row.congr {f' : Nat → Value} (h : Row w g len t n f) (hf : ∀ c, c < n → f' c = f c) : Row w g len t n f' := by
  obtain ⟨cs, h, hs, hc⟩ := h; exact ⟨cs, h, hs, fun c hlt => by rw [hf c hlt]; exact hc c hlt⟩
theorem Row.ne {g' len' n' : Nat} {t' : TypeId} {f' : Nat → Value} (h : Row w g len t n f) (h' : Row w g' len' t' n' f') (ht : t ≠ t') : g ≠ g' := by
  obtain ⟨cs, h, _⟩ := h
  obtain ⟨cs', h', _⟩ := h'
  intro e; subst e; rw [h] at h'; simp at h'; exact ht h'.2
end

/-- What 'make' has laid. -/
theorem row_made {w : World} {B e n g : Nat} {z : Value} (h : w.ownsRow B e 1 (.slice (some ⟨g, 0, none⟩) n n) n (madeCells #[z] (n * 1)).toList) : Row w g n e n (fun _ => z) := by
  obtain ⟨h1, h2⟩ := h
  rcases h2 with ⟨h, _⟩ | ⟨g', cap, cur, hv, hb, hg, hn, hm, hs, ht⟩
  · simp at h
  · simp only [Value.slice.injEq, Option.some.injEq, Addr.mk.injEq, and_true, true_and] at hv
    obtain ⟨rfl, rfl⟩ := hv
    refine ⟨cur, hg, by omega, fun c hc => ?_⟩
    rw [toList_madeCells_one] at ht
    have h3 : cur.toList[c]? = (cur.toList.take (n * 1))[c]? := by rw [List.getElem?_take_of_lt (by omega)]
    rw [← Array.getElem?_toList, h3, ht, List.getElem?_replicate_of_lt (by omega)]


theorem Try.info5 : (Try.prog.info? 5).map (fun i => (i.zero, i.size, i.bytes)) = some (some (.int .u8 0), 1, 1) := by kernel_rfl
def byteAt (l : List UInt8) (j : Nat) : Value := .int .u8 ((l.getD j 0).toNat : Nat)
theorem byteAt_of {l : List UInt8} {j : Nat} {c : UInt8} (h : l[j]? = some c) : byteAt l j = .int .u8 (c.toNat : Nat) := by
  simp [byteAt, List.getD, h]

/-- A slice of bytes that the law made: nil, or a row of its own, full. -/
def Has (w : World) (oa : Option Addr) (l : List UInt8) : Prop :=
  (oa = none ∧ l = []) ∨ ∃ g, oa = some ⟨g, 0, none⟩ ∧ Row w g l.length 5 l.length (byteAt l)
/-- A slice of bytes that came in. -/
def Came8 (w : World) (a : Option Addr) (len cap : Nat) (l : List UInt8) : Prop :=
  (a = none ∧ len = 0 ∧ cap = 0 ∧ l = []) ∨ ∃ x, a = some x ∧ l.length = len ∧ ∀ j c, l[j]? = some c → w.cell? (x.add j) = some (.int .u8 (c.toNat : Nat))

theorem bytes_any (a0 a1 : Option Addr) (n m c d : Nat) (w : World) (h : n + m ≤ 1048576) : Calls Try.prog 4 #[.slice a0 n c, .slice a1 m d] w fun e w' => e = .returned (.bool true) ∧ w' = w := by
  go_enter Try.func4, Try.ntmps4
  go_wp2
  go_ret
  exact ⟨rfl, rfl⟩

theorem nil_is (w : World) (a : Option Addr) (n c : Nat) : (binOp .eql 22 (.slice a n c) (.slice none 0 0)).run Try.prog w = .ok (.bool a.isNone) w :=
  Lib.run_eql_slice_nil w 22 5 a n c 0 0 Try.underlying22

theorem clone_nil (w : World) : Calls Try.prog 5 #[.slice none 0 0] w fun e w' => e = .returned (.slice none 0 0) ∧ w' = w := by
  have ke := nil_is
  go_enter Try.func5, Try.ntmps5
  go_wp2
  go_ret
  exact ⟨rfl, rfl⟩

theorem clone_some (x : Addr) (cap : Nat) (l : List UInt8) (w : World) (hl : l.length ≤ 1048576) (hc : ∀ j c, l[j]? = some c → w.cell? (x.add j) = some (.int .u8 (c.toNat : Nat))) :
    Calls Try.prog 5 #[.slice (some x) l.length cap] w fun e w' => e = .returned (.slice (some ⟨w.heap.size, 0, none⟩) l.length l.length) ∧ Row w' w.heap.size l.length 5 l.length (byteAt l) ∧ Below w.heap.size w w' := by
  obtain ⟨i5, hi5, za0, za1, za2⟩ := info_parts Try.info5
  have ke := nil_is
  obtain ⟨n, hn⟩ : ∃ n, l.length = n := ⟨_, rfl⟩
  rw [hn] at hl ⊢
  have HN : Hid (l.length = n) := hn
  clear hn
  have HC : Hid (∀ j c, l[j]? = some c → w.cell? (x.add j) = some (.int .u8 (c.toNat : Nat))) := hc
  clear hc
  go_enter Try.func5, Try.ntmps5
  go_wp2_with (at_make; refine wpList_make_full _ rfl _ _ 22 rfl w.heap.size 5 i5 (.int .u8 0) 1 Try.underlying22 hi5 za0 za1 .i64 .i64 n n n rfl rfl rfl rfl (by rw [za2]; omega) (by unfold maxLen; omega) (Nat.le_refl _) ?_; intro w1 hrow hgrow)
  have hR0 : Row w1 w.heap.size n 5 0 (byteAt l) := by
    obtain ⟨cs, h1, h2, _⟩ := row_made hrow
    exact ⟨cs, h1, h2, fun c h => by omega⟩
  have hB0 : Below w.heap.size w w1 := (Below.refl _ _).grown hgrow (Nat.le_refl _) (by simp)
  clear hrow hgrow
  go_loopw [4] (fun iv wr => ∃ k : Nat, k ≤ n ∧ iv = .int .i64 k ∧ Row wr w.heap.size n 5 k (byteAt l) ∧ Below w.heap.size w wr) (fun iv _ => n - (intOf iv).toNat)
  case atStart => exact ⟨0, Nat.zero_le _, rfl, hR0, hB0⟩
  case round =>
    clear hR0 hB0
    obtain ⟨k, hk, rfl, hR, hB⟩ := hrel
    by_cases hlt : k < n
    · have hlk : k < l.length := by rw [HN.out]; exact hlt
      obtain ⟨b, off, spot⟩ := x
      have hck := HC.out k l[k] (List.getElem?_eq_getElem hlk)
      have hck0 := HC.out 0 l[0] (List.getElem?_eq_getElem (by omega))
      have hspot : spot = none := by simpa [Addr.add] using World.cell?_spot hck0
      subst hspot
      clear hck0
      rw [Addr.add_lit] at hck
      have hblt : b < w.heap.size := World.block_lt_of_cell? w _ hck
      rw [← hB.cell hblt] at hck
      have HV : Hid (byteAt l k = .int .u8 (l[k].toNat : Nat)) := byteAt_of (List.getElem?_eq_getElem hlk)
      obtain ⟨cv, hcv⟩ := hR.has hlt
      have hfr := hR.free k
      generalize l[k] = c at *
      have hne : b ≠ w.heap.size := by omega
      go_wp2
      go_roundw
      case rel => exact ⟨k + 1, hlt, by go_num, hR.push hlt HV.out.symm, hB.setCell (Nat.le_refl _) _⟩
      case measure => simp [intOf]; omega
    · obtain rfl : k = n := by omega
      go_wp2
      go_ret
      exact ⟨rfl, hR, hB⟩

theorem Has.lt {w : World} {oa : Option Addr} {l : List UInt8} (h : Has w oa l) : ∀ x, oa = some x → x.block < w.heap.size := by
  rcases h with ⟨rfl, _⟩ | ⟨g, rfl, h⟩
  · intro x hx; simp at hx
  · intro x hx; simp at hx; subst hx; exact h.lt
theorem Has.kept {w w' : World} {oa : Option Addr} {l : List UInt8} (h : Has w oa l) (hk : ∀ x, oa = some x → w'.heap[x.block]? = w.heap[x.block]?) : Has w' oa l := by
  rcases h with h | ⟨g, rfl, h⟩
  · exact .inl h
  · exact .inr ⟨g, rfl, h.kept (hk _ rfl)⟩
theorem Has.below {w w' : World} {oa : Option Addr} {l : List UInt8} (h : Has w oa l) (hb : Below w.heap.size w w') : Has w' oa l :=
  h.kept fun x hx => hb.block _ (h.lt x hx)

theorem clone_any {w : World} {a : Option Addr} {len cap : Nat} {l : List UInt8} (h : Came8 w a len cap l) (hl : len ≤ 1048576) :
    Calls Try.prog 5 #[.slice a len cap] w fun e w' => ∃ oa, e = .returned (.slice oa l.length l.length) ∧ oa.isNone = a.isNone ∧ Has w' oa l ∧ (∀ x, oa = some x → w.heap.size ≤ x.block) ∧ Below w.heap.size w w' := by
  rcases h with ⟨rfl, rfl, rfl, rfl⟩ | ⟨x, rfl, rfl, hc⟩
  · refine (clone_nil w).mono ?_
    rintro e w' ⟨rfl, rfl⟩
    exact ⟨none, rfl, rfl, .inl ⟨rfl, rfl⟩, fun x h => by simp at h, Below.refl _ _⟩
  · refine (clone_some x cap l w hl hc).mono ?_
    rintro e w' ⟨rfl, hR, hB⟩
    exact ⟨_, rfl, rfl, .inr ⟨_, rfl, hR⟩, fun x h => by simp at h; subst h; exact Nat.le_refl _, hB⟩
theorem Came8.below {w w' : World} {a : Option Addr} {len cap : Nat} {l : List UInt8} (h : Came8 w a len cap l) (hb : Below w.heap.size w w') : Came8 w' a len cap l := by
  rcases h with h | ⟨x, rfl, hl, hc⟩
  · exact .inl h
  · refine .inr ⟨x, rfl, hl, fun j c hj => ?_⟩
    have h := hc j c hj
    rw [hb.cell (World.block_lt_of_cell? w _ h)]
    exact h
end Go.Proofs.Qxb6621709a

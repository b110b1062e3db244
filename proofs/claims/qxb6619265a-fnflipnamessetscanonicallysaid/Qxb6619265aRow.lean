/-
  Rows of cells in memory, told by a function: for the law's own slices and its array.
-/
import Derived.Test.Qxb6619265aUndo
import Derived.Test.Qxb6619265aScript
namespace Go.Proofs.Qxb6619265a
open Go.RowKit Go.Maps

/-- BLOCK g IS A ROW OF 'len' CELLS (elements of type t), THE FIRST n OF WHICH HOLD f. -/
def Row (w : World) (g len : Nat) (t : TypeId) (n : Nat) (f : Nat → Value) : Prop :=
  ∃ cs : Array Value, w.heap[g]? = some (.cells cs t (0, 0)) ∧ cs.size = len ∧ ∀ c, c < n → cs[c]? = some (f c)

section
variable {w w' : World} {g len n : Nat} {t : TypeId} {f : Nat → Value}
theorem Row.lt (h : Row w g len t n f) : g < w.heap.size := by obtain ⟨cs, h, _⟩ := h; exact lt_of_block h
theorem Row.cell (h : Row w g len t n f) {c : Nat} (hc : c < n) : w.cell? ⟨g, c, none⟩ = some (f c) := by
  obtain ⟨cs, h, _, hf⟩ := h; exact blk_cell h (hf c hc)
theorem Row.has (h : Row w g len t n f) {c : Nat} (hc : c < len) : ∃ v, w.cell? ⟨g, c, none⟩ = .some v := by
  obtain ⟨cs, h, hs, _⟩ := h; exact ⟨_, blk_cell h (Array.getElem?_eq_getElem (by omega))⟩
theorem Row.free (h : Row w g len t n f) (c : Nat) : w.frozen? ⟨g, c, none⟩ = false := by
  obtain ⟨cs, h, _⟩ := h; exact blk_free h c
theorem Row.kept (h : Row w g len t n f) (hk : w'.heap[g]? = w.heap[g]?) : Row w' g len t n f := by
  obtain ⟨cs, h, r⟩ := h; exact ⟨cs, hk.trans h, r⟩
theorem Row.alloc (h : Row w g len t n f) (o : Obj) : Row (w.alloc o) g len t n f := h.kept (Below.heap_alloc _ _ _ h.lt)
theorem Row.drew (h : Row w g len t n f) : Row w.drew g len t n f := h
theorem Row.other (h : Row w g len t n f) {a : Addr} (ha : g ≠ a.block) (v : Value) : Row (w.setCell a v) g len t n f := h.kept (Below.heap_setCell _ _ _ _ ha)
theorem Row.push (h : Row w g len t n f) (hn : n < len) {v : Value} (hv : v = f n) : Row (w.setCell ⟨g, n, none⟩ v) g len t (n + 1) f := by
  obtain ⟨cs, h, hs, hf⟩ := h
  refine ⟨_, blk_setCell h v, by simpa using hs, fun c hc => ?_⟩
  by_cases e : c = n
  · subst e; rw [Array.getElem?_setIfInBounds_self_of_lt (by omega), hv]
  · rw [Array.getElem?_setIfInBounds_ne (by omega)]; exact hf c (by omega)
theorem Row.upd (h : Row w g len t n f) {c : Nat} (hc : c < len) {v : Value} {f' : Nat → Value} (hv : v = f' c) (hf' : ∀ d, d ≠ c → f' d = f d) : Row (w.setCell ⟨g, c, none⟩ v) g len t n f' := by
  obtain ⟨cs, h, hs, hf⟩ := h
  refine ⟨_, blk_setCell h v, by simpa using hs, fun d hd => ?_⟩
  by_cases e : d = c
  · subst e; rw [Array.getElem?_setIfInBounds_self_of_lt (by omega), hv]
  · rw [Array.getElem?_setIfInBounds_ne (by omega), hf' d e]; exact hf d hd
theorem Row.congr {f' : Nat → Value} (h : Row w g len t n f) (hf : ∀ c, c < n → f' c = f c) : Row w g len t n f' := by
  obtain ⟨cs, h, hs, hc⟩ := h; exact ⟨cs, h, hs, fun c hlt => by rw [hf c hlt]; exact hc c hlt⟩
theorem Row.ne {g' len' n' : Nat} {t' : TypeId} {f' : Nat → Value} (h : Row w g len t n f) (h' : Row w g' len' t' n' f') (ht : t ≠ t') : g ≠ g' := by
  obtain ⟨cs, h, _⟩ := h
  obtain ⟨cs', h', _⟩ := h'
  intro e; subst e; rw [h] at h'; simp at h'; exact ht h'.2
end

/-- What 'make' has laid. -/
theorem row_made {w : World} {B e n g : Nat} {z : Value} (h : w.ownsRow B e 1 (.slice (some ⟨g, 0, none⟩) n n) n (madeCells #[z] (n * 1)).toList) : Row w g n e n (fun _ => z) := by
  obtain ⟨h1, h2⟩ := h
  rcases h2 with ⟨h, _⟩ | ⟨g', cap, cur, hv, hb, hg, hn, hm, hs, ht⟩
  · simp at h
  · simp only [Value.slice.injEq, Option.some.injEq, Addr.mk.injEq, and_true, true_and] at hv
    obtain ⟨rfl, rfl⟩ := hv
    refine ⟨cur, hg, by omega, fun c hc => ?_⟩
    rw [toList_madeCells_one] at ht
    have h3 : cur.toList[c]? = (cur.toList.take (n * 1))[c]? := by rw [List.getElem?_take_of_lt (by omega)]
    rw [← Array.getElem?_toList, h3, ht, List.getElem?_replicate_of_lt (by omega)]

/-- The script's cells, members told as numbers. -/
def ReadsN (w : World) (a : Option Addr) (len : Nat) (z : Nat → Nat) : Prop :=
  ∀ k, k < len → ∃ b off, a = some ⟨b, off, none⟩ ∧ b < w.heap.size ∧ w.cell? ⟨b, off + k, none⟩ = some (.int .i64 (z k : Nat))
theorem ReadsN.at {w wr : World} {a : Option Addr} {len : Nat} {z : Nat → Nat} (h : ReadsN w a len z) (hb : Below w.heap.size w wr) {k : Nat} (hk : k < len) :
    ∃ b off, a = some ⟨b, off, none⟩ ∧ b < w.heap.size ∧ ∀ m, m < len → wr.cell? ⟨b, off + m, none⟩ = some (.int .i64 (z m : Nat)) := by
  obtain ⟨b, off, ha, hlt, hc⟩ := h k hk
  refine ⟨b, off, ha, hlt, fun m hm => ?_⟩
  obtain ⟨b', off', ha', hlt', hc'⟩ := h m hm
  rw [ha] at ha'
  simp at ha'
  obtain ⟨rfl, rfl⟩ := ha'
  rw [hb.cell hlt]; exact hc'
end Go.Proofs.Qxb6619265a

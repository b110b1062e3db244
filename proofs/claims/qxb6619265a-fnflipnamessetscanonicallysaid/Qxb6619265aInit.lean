import Derived.Test.Qxb6619265aTab
namespace Go.Proofs.Qxb6619265a
open Go.RowKit Go.Maps

theorem first_facts {w w1 : World} {tb : Nat} {o p : Obj} {cs : Array Value} (h : w.heap[tb]? = some (.cells cs 42 (0, 0))) (hg : ((w.alloc o).alloc p).grownBy w1 (some (w.heap.size + 1))) :
    w1.heap[tb]? = some (.cells cs 42 (0, 0)) ∧ w.heap.size + 2 ≤ w1.heap.size := by
  have hl := lt_of_block h
  have hs := hg.size
  simp at hs
  exact ⟨(hg.block tb (by simp; omega) (by simp; omega)).trans ((Below.heap_alloc _ _ _ (by simp; omega)).trans ((Below.heap_alloc _ _ _ hl).trans h)), by omega⟩
theorem struct_cells {w : World} {tb : Nat} {a b c d e : Value} (h : w.heap[tb]? = some (.cells #[a, b, c, d, e] 42 (0, 0))) :
    w.cell? ⟨tb, 1, none⟩ = some b ∧ w.cell? ⟨tb, 2, none⟩ = some c ∧ w.cell? ⟨tb, 3, none⟩ = some d ∧ w.cell? ⟨tb, 4, none⟩ = some e :=
  ⟨blk_cell h rfl, blk_cell h rfl, blk_cell h rfl, blk_cell h rfl⟩
theorem struct_free {w : World} {tb : Nat} {cs : Array Value} (h : w.heap[tb]? = some (.cells cs 42 (0, 0))) :
    w.frozen? ⟨tb, 1, none⟩ = false ∧ w.frozen? ⟨tb, 2, none⟩ = false ∧ w.frozen? ⟨tb, 3, none⟩ = false ∧ w.frozen? ⟨tb, 4, none⟩ = false :=
  ⟨blk_free h _, blk_free h _, blk_free h _, blk_free h _⟩

theorem second_facts {w1 w3 : World} {tb : Nat} {a c e : Value} {v1 v3 v1' v3' : Value} {o p : Obj} (h : w1.heap[tb]? = some (.cells #[a, v1, c, v3, e] 42 (0, 0)))
    (hg : ((((w1.setCell ⟨tb, 1, none⟩ v1').setCell ⟨tb, 3, none⟩ v3').alloc o).alloc p).grownBy w3 (some (w1.heap.size + 1))) :
    w3.heap[tb]? = some (.cells #[a, v1', c, v3', e] 42 (0, 0)) ∧ w1.heap.size + 2 ≤ w3.heap.size := by
  have hl := lt_of_block h
  have hs := hg.size
  simp at hs
  have b1 := blk_setCell (o := 3) (blk_setCell (o := 1) h v1') v3'
  refine ⟨(hg.block tb (by simp; omega) (by simp; omega)).trans ((Below.heap_alloc _ _ _ (by simp; omega)).trans ((Below.heap_alloc _ _ _ (by simp; omega)).trans b1)), by omega⟩

theorem index_nil : IsIndex (.map [] : DataW Unit) [] := ⟨fun i x h => by simp at h, fun x _ => rfl⟩
theorem index_one : IsIndex ((DataW.map [] : DataW Unit).put (.int .u64 0) (.lit (.int .i32 0))) [0] :=
  index_nil.snoc ⟨_, rfl⟩ (by simp)

theorem row_one {w : World} {B e sz g : Nat} {cs : Array Value} (h : w.heap[g]? = some (.cells cs e (0, 0))) (hB : B ≤ g) (hs : cs.size = sz) : w.ownsRow B e sz (.slice (some ⟨g, 0, none⟩) 1 1) 1 cs.toList := by
  refine ⟨by simp [hs], Or.inr ⟨g, 1, cs, rfl, hB, h, Nat.le_refl _, by decide, by simp [hs], ?_⟩⟩
  rw [List.take_of_length_le (by simp [hs])]

theorem init_tab {w w1 w3 : World} {B tb L : Nat} {D1 D3 : DataW Unit} (hB : B ≤ tb)
    (hblk : w.heap[tb]? = some (.cells #[.int .i64 L, .slice none 0 0, .slice none 0 0, .map none, .map none] 42 (0, 0)))
    (hg1 : ((w.alloc (.cells #[.int .u64 0] 34)).alloc (.map #[] 0)).grownBy w1 (some (w.heap.size + 1)))
    (hm1 : w1.ownsMap Try.prog 34 (plainElem Try.prog 21) (w.heap.size + 1) 1 D1)
    (hg3 : ((((w1.setCell ⟨tb, 1, none⟩ (.slice (some ⟨w.heap.size, 0, none⟩) 1 1)).setCell ⟨tb, 3, none⟩ (.map (some (w.heap.size + 1)))).alloc (.cells #[.int .i32 0, .int .i32 0] 47)).alloc (.map #[] 0)).grownBy w3 (some (w1.heap.size + 1)))
    (hm3 : w3.ownsMap Try.prog 34 (plainElem Try.prog 21) (w1.heap.size + 1) 1 D3) (i1 : IsIndex D1 [0]) (i3 : IsIndex D3 [0]) :
    Tab ((w3.setCell ⟨tb, 2, none⟩ (.slice (some ⟨w1.heap.size, 0, none⟩) 1 1)).setCell ⟨tb, 4, none⟩ (.map (some (w1.heap.size + 1)))) B tb L Flip.empty w.heap.size w1.heap.size (w.heap.size + 1) (w1.heap.size + 1) 1 1 D1 D3 ∧
      Only (fun k => k = tb) w ((w3.setCell ⟨tb, 2, none⟩ (.slice (some ⟨w1.heap.size, 0, none⟩) 1 1)).setCell ⟨tb, 4, none⟩ (.map (some (w1.heap.size + 1)))) ∧ w.heap.size + 2 ≤ w1.heap.size := by
  have hl := lt_of_block hblk
  obtain ⟨f1, f2⟩ := first_facts hblk hg1
  have hs3 := hg3.size
  simp at hs3
  have b1 := blk_setCell (o := 3) (blk_setCell (o := 1) f1 (.slice (some ⟨w.heap.size, 0, none⟩) 1 1)) (.map (some (w.heap.size + 1)))
  generalize hW2 : (w1.setCell ⟨tb, 1, none⟩ (.slice (some ⟨w.heap.size, 0, none⟩) 1 1)).setCell ⟨tb, 3, none⟩ (.map (some (w.heap.size + 1))) = W2 at *
  have hsz2 : W2.heap.size = w1.heap.size := by rw [← hW2]; simp
  have o2 : Only (fun k => k = tb) w1 W2 := by rw [← hW2]; exact ((Only.refl _ _).setCell (by simp) _).setCell (by simp) _
  have o1 : Only (fun _ => False) w w1 := (((Only.refl _ w).alloc _).alloc _).grown hg1 (by intro k hk hlt; simp at hk; omega)
  have o3 : Only (fun _ => False) W2 w3 := (((Only.refl _ W2).alloc _).alloc _).grown hg3 (by intro k hk hlt; simp at hk; omega)
  have o4 : Only (fun k => k = tb) w3 ((w3.setCell ⟨tb, 2, none⟩ (.slice (some ⟨w1.heap.size, 0, none⟩) 1 1)).setCell ⟨tb, 4, none⟩ (.map (some (w1.heap.size + 1)))) := ((Only.refl _ _).setCell (by simp) _).setCell (by simp) _
  have b3 : w3.heap[tb]? = _ := (o3.block tb (by omega) (by simp)).trans b1
  have b4 := blk_setCell (o := 4) (blk_setCell (o := 2) b3 (.slice (some ⟨w1.heap.size, 0, none⟩) 1 1)) (.map (some (w1.heap.size + 1)))
  have rwb : w1.heap[w.heap.size]? = some (.cells #[.int .u64 0] 34 (0, 0)) := by
    rw [hg1.block w.heap.size (by simp; omega) (by simp), Below.heap_alloc _ _ _ (by simp)]
    exact heap_alloc_new w _
  have rpb : w3.heap[w1.heap.size]? = some (.cells #[.int .i32 0, .int .i32 0] 47 (0, 0)) := by
    rw [← hsz2, hg3.block W2.heap.size (by simp; omega) (by simp [hsz2]), Below.heap_alloc _ _ _ (by simp)]
    exact heap_alloc_new W2 _
  refine ⟨⟨b4, ?_, ?_, ?_, ?_, i1, i3, by omega, by simp [Flip.empty]⟩, ?_, f2⟩
  · refine row_one (cs := #[.int .u64 0]) ?_ (by omega) rfl
    rw [o4.block _ (by omega) (by omega), o3.block _ (by omega) (by simp), o2.block _ (by omega) (by omega)]
    exact rwb
  · refine row_one (cs := #[.int .i32 0, .int .i32 0]) ?_ (by omega) rfl
    rw [o4.block _ (by omega) (by omega)]
    exact rpb
  · obtain ⟨es, c, hb, r⟩ := hm1
    refine ⟨es, c, ?_, r⟩
    rw [o4.block _ (by omega) (by omega), o3.block _ (by omega) (by simp), o2.block _ (by omega) (by omega)]
    exact hb
  · obtain ⟨es, c, hb, r⟩ := hm3
    refine ⟨es, c, ?_, r⟩
    rw [o4.block _ (lt_of_block hb) (by omega)]
    exact hb
  · refine ⟨?_, ?_, ?_, ?_, fun k hk hne => ?_⟩
    · exact (o4.os.trans (o3.os.trans (o2.os.trans o1.os)))
    · exact (o4.tape.trans (o3.tape.trans (o2.tape.trans o1.tape)))
    · exact (o4.output.trans (o3.output.trans (o2.output.trans o1.output)))
    · have := o4.size; omega
    · rw [o4.block k (by omega) hne, o3.block k (by omega) (by simp), o2.block k (by omega) hne, o1.block k hk (by simp)]

theorem made_next (w : World) (o : Obj) : ((w.alloc o).alloc (.map #[] 0)).ownsMap Try.prog 34 (plainElem (H := Unit) Try.prog 21) (w.heap.size + 1) 0 (.map []) := by
  have h := World.ownsMap_made (w.alloc o) Try.prog 34 (plainElem (H := Unit) Try.prog 21)
  have e : (w.alloc o).heap.size = w.heap.size + 1 := by simp
  rw [e] at h
  exact h

end Go.Proofs.Qxb6619265a

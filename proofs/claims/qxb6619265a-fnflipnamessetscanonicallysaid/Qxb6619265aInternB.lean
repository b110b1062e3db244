import Derived.Test.Qxb6619265aInternA
import Derived.Deep.RegionLaw
import Derived.Deep.AppendLies
namespace Go.Proofs.Qxb6619265a
open Go.RowKit Go.Maps

theorem intern15_hit (tb off bp n x k : Nat) (p : Nat × Nat) (D : DataW Unit) (w : World) (hx : x < 2 ^ 64) (hown : w.ownsMap Try.prog 34 (plainElem Try.prog 21) bp n D)
    (hhas : Maps.has D (.int .u64 x) = true) (hk : D.atKey (.int .u64 x) (.lit (.int .i32 0)) = .lit (.int .i32 k)) :
    Calls Try.prog 15 #[.pointer (some ⟨tb, off, none⟩), .map (some bp), .int .u64 x, .agg #[.int .i32 p.1, .int .i32 p.2]] w fun e w' => e = .returned (.int .i32 k) ∧ Only (fun _ => False) w w' := by
  have hkey := keyOf_int_mk Try.underlying34 (wf_key hx)
  have HK : Hid (D.atKey (.int .u64 x) (.lit (.int .i32 0)) = .lit (.int .i32 k)) := hk
  clear hk
  go_enter Try.func15, Try.ntmps15
  go_wp2_with (first
    | (at_lookup; refine wpList_lookup_own_ok_int _ rfl _ _ 40 rfl 34 21 .i32 lawK Try.underlying40 Try.underlying21 (zero21 _) bp n D rfl (hown.alloc _) _ _ rfl hkey ?_; intro c hat hwc)
    | go_in)
  go_ret
  have e : c = (k : Int) := by
    rw [HK.out] at hat
    simp at hat
    omega
  exact ⟨ret_int e, (Only.refl _ _).alloc _⟩

theorem pcells_snoc (ps : List (Nat × Nat)) (p : Nat × Nat) : pcells (ps ++ [p]) = pcells ps ++ [Value.int .i32 (p.1 : Nat), Value.int .i32 (p.2 : Nat)] := by simp [pcells]

theorem new_block (w : World) (o p : Obj) : (((w.alloc o).alloc p).drew).heap[w.heap.size + 1]? = some p := by
  show ((w.heap.push o).push p)[w.heap.size + 1]? = some p
  have : (w.heap.push o).size = w.heap.size + 1 := by simp
  rw [← this, Array.getElem?_push_size]
theorem old_block (w : World) (o p : Obj) {k : Nat} (h : k < w.heap.size) : (((w.alloc o).alloc p).drew).heap[k]? = w.heap[k]? := by
  show ((w.heap.push o).push p)[k]? = _
  rw [Array.getElem?_push, if_neg (by simp; omega), Array.getElem?_push, if_neg (by omega)]

set_option maxHeartbeats 400000 in
theorem intern15_miss (B tb off bp n g cap x : Nat) (p : Nat × Nat) (ps : List (Nat × Nat)) (cs : Array Value) (t : TypeId) (D : DataW Unit) (w : World) (hx : x < 2 ^ 64) (hl : ps.length ≤ 1000000) (hn : n ≤ 1000000) (hB : B ≤ w.heap.size)
    (hblk : w.heap[tb]? = some (.cells cs t (0, 0))) (hcs : cs[off]? = some (.slice (some ⟨g, 0, none⟩) ps.length cap))
    (hrow : w.ownsRow B 47 2 (.slice (some ⟨g, 0, none⟩) ps.length cap) ps.length (pcells ps))
    (hown : w.ownsMap Try.prog 34 (plainElem Try.prog 21) bp n D) (hhas : Maps.has D (.int .u64 x) = false) (htg : tb ≠ g) (htb : tb ≠ bp) (hbg : bp ≠ g) :
    Calls Try.prog 15 #[.pointer (some ⟨tb, off, none⟩), .map (some bp), .int .u64 x, .agg #[.int .i32 p.1, .int .i32 p.2]] w fun e w' => e = .returned (.int .i32 ps.length) ∧
      ∃ g' cap', w'.heap[tb]? = some (.cells (cs.setIfInBounds off (.slice (some ⟨g', 0, none⟩) (ps.length + 1) cap')) t (0, 0)) ∧
        w'.ownsRow B 47 2 (.slice (some ⟨g', 0, none⟩) (ps.length + 1) cap') (ps.length + 1) (pcells (ps ++ [p])) ∧
        w'.ownsMap Try.prog 34 (plainElem Try.prog 21) bp (n + 1) (D.put (.int .u64 x) (.lit (.int .i32 ps.length))) ∧
        (g' = g ∨ w.heap.size ≤ g') ∧ Only (fun k => k = tb ∨ k = bp ∨ k = g) w w' := by
  have hkey := keyOf_int_mk Try.underlying34 (wf_key hx)
  have hc := blk_cell hblk hcs
  have hf := blk_free hblk off
  have htw := lt_of_block hblk
  have hbw := hown.lt
  obtain ⟨i0, hi, hz0, hz1, hz2⟩ := info_parts Try.info47
  have hr2 : ((((w.alloc (.cells #[.int .i32 p.1, .int .i32 p.2] 47)).alloc (.cells #[.int .i32 p.1, .int .i32 p.2] 47)).drew).ownsRow B 47 2 (.slice (some ⟨g, 0, none⟩) ps.length cap) ps.length (pcells ps)) := (hrow.alloc _).alloc _
  have hnews : ∀ j u, [Value.int .i32 p.1, .int .i32 p.2][j]? = some u → (((w.alloc (.cells #[.int .i32 p.1, .int .i32 p.2] 47)).alloc (.cells #[.int .i32 p.1, .int .i32 p.2] 47)).drew).cell? ((⟨w.heap.size + 1, 0, none⟩ : Addr).add j) = some u := World.news_of_block (cs := #[.int .i32 p.1, .int .i32 p.2]) (t := 47) (fr := (0, 0)) (new_block _ _ _)
  have hone : ∀ u ∈ [Value.int .i32 p.1, .int .i32 p.2], u.oneCell' = true := by intro u hu; simp at hu; rcases hu with rfl | rfl <;> rfl
  have hb1 : ps.length + 1 ≤ maxLen := by unfold maxLen; omega
  have hb2 : (ps.length + 1) * 8 ≤ 140737488355328 := by omega
  have hb3 : B ≤ ((((w.alloc (.cells #[.int .i32 p.1, .int .i32 p.2] 47)).alloc (.cells #[.int .i32 p.1, .int .i32 p.2] 47)).drew).heap.size) := by simp; omega
  have hb4 : ((((w.alloc (.cells #[.int .i32 p.1, .int .i32 p.2] 47)).alloc (.cells #[.int .i32 p.1, .int .i32 p.2] 47)).drew).heap.size) = w.heap.size + 2 := by simp
  go_enter Try.func15, Try.ntmps15
  go_wp2_with (first
    | (at_lookup; refine wpList_lookup_own_ok_int _ rfl _ _ 40 rfl 34 21 .i32 lawK Try.underlying40 Try.underlying21 (zero21 _) bp n D rfl (hown.alloc _) _ _ rfl hkey ?_; intro c hat hwc)
    | go_in)
  go_region_law (refine step_append_lies _ rfl (.tmp 27) (.tmp 29) 39 rfl B 47 i0 (.agg #[.int .i32 0, .int .i32 0]) 2 8 Try.underlying39 hi hz0 hz1 hz2 rfl (by decide) (.slice (some ⟨g, 0, none⟩) ps.length cap) ps.length (pcells ps) (by rfl) hr2 ⟨w.heap.size + 1, 0, none⟩ 1 1 [.int .i32 p.1, .int .i32 p.2] (by rfl) rfl hnews hone (by decide) hb1 hb2 hb3 (w.heap.size + 2) hb4 ?_; intro g' cap' w1 hown' hgrow hloc hlt; have hbl1 := (hgrow.block tb (by rw [hb4]; omega) (by simp [Value.ownBlock]; omega)).trans (old_block w _ _ htw |>.trans hblk); have hc1 := blk_cell hbl1 hcs; have hf1 := blk_free hbl1 off)
  all_goals
    have hm1 := ((show ((((w.alloc (.cells #[.int .i32 p.1, .int .i32 p.2] 47)).alloc (.cells #[.int .i32 p.1, .int .i32 p.2] 47)).drew).ownsMap Try.prog 34 (plainElem Try.prog 21) bp n D) from (hown.alloc _).alloc _).kept hgrow (by simp [Value.ownBlock]; omega)).setCell (a := ⟨tb, off, none⟩) (by simp; omega) (.slice (some ⟨g', 0, none⟩) (ps.length + 1) cap')
    go_wp2_with (first
      | (at_mapUpdate; refine wpList_mapUpdate_own _ rfl _ _ _ 40 rfl 34 21 lawK Try.underlying40 _ bp n _ rfl hm1 (by unfold maxLen; omega) _ _ _ rfl rfl hkey _ [] (plainElem_int Try.underlying21 (WalkArith.wf_i32 (by omega))) ?_; intro w2 hm2 hgrow2)
      | go_in)
    go_ret
    obtain ⟨r1, r2, r3, r4⟩ := miss_end hblk hbw ((((Only.refl _ w).alloc _).alloc _).drew) hgrow (by rcases hloc with h | h; exact Or.inl h.symm; exact Or.inr (by rw [hb4, h]; rfl)) hown' hgrow2 htg htb hbg
    exact ⟨rfl, g', cap', r1, by rw [pcells_snoc]; exact r2, hm2, r3, r4⟩
end Go.Proofs.Qxb6619265a

import Derived.Test.Qxb6619265aHeap
namespace Go.Proofs.Qxb6619265a
open Go.RowKit Go.Maps

theorem ret_int {k : IntKind} {a b : Int} (h : a = b) : Ending.returned (.int k a) = .returned (.int k b) := by rw [h]

theorem intern14_hit (tb off bw n x k : Nat) (D : DataW Unit) (w : World) (hx : x < 2 ^ 64) (hown : w.ownsMap Try.prog 34 (plainElem Try.prog 21) bw n D)
    (hhas : Maps.has D (.int .u64 x) = true) (hk : D.atKey (.int .u64 x) (.lit (.int .i32 0)) = .lit (.int .i32 k)) :
    Calls Try.prog 14 #[.pointer (some ⟨tb, off, none⟩), .map (some bw), .int .u64 x, .int .u64 x] w fun e w' => e = .returned (.int .i32 k) ∧ w' = w := by
  have hkey := keyOf_int_mk Try.underlying34 (wf_key hx)
  have HK : Hid (D.atKey (.int .u64 x) (.lit (.int .i32 0)) = .lit (.int .i32 k)) := hk
  clear hk
  go_enter Try.func14, Try.ntmps14
  go_wp2_with (first
    | (at_lookup; refine wpList_lookup_own_ok_int _ rfl _ _ 40 rfl 34 21 .i32 lawK Try.underlying40 Try.underlying21 (zero21 _) bw n D rfl hown _ _ rfl hkey ?_; intro c hat hwc)
    | go_in)
  go_ret
  have e : c = (k : Int) := by
    rw [HK.out] at hat
    simp at hat
    omega
  exact ⟨ret_int e, rfl⟩

theorem row_shape {w : World} {B : Nat} {e : TypeId} {s n : Nat} {v : Value} {xs : List Value} (h : w.ownsRow B e s v (n + 1) xs) : ∃ g cap, v = .slice (some ⟨g, 0, none⟩) (n + 1) cap := by
  rcases h.2 with ⟨_, h⟩ | ⟨g, cap', _, h, _⟩
  · omega
  · exact ⟨g, cap', h⟩

/-- What an interning leaves: the row 'v'' behind the append (world 'w1'), the field's store, the map's store (world 'w2'). -/
theorem miss_end {w w0 w1 w2 : World} {B e s n tb off bw g cap g' cap' M : Nat} {xs : List Value} {cs : Array Value} {t : TypeId} (hblk : w.heap[tb]? = some (.cells cs t (0, 0))) (hbw : bw < w.heap.size) (h0 : Only (fun _ => False) w w0)
    (hgrow : w0.grownBy w1 (Value.slice (some ⟨g, 0, none⟩) n cap).ownBlock)
    (hloc : (Value.slice (some ⟨g', 0, none⟩) M cap').ownBlock = (Value.slice (some ⟨g, 0, none⟩) n cap).ownBlock ∨ (Value.slice (some ⟨g', 0, none⟩) M cap').ownBlock = some w0.heap.size)
    (hown' : w1.ownsRow B e s (.slice (some ⟨g', 0, none⟩) M cap') M xs)
    (hgrow2 : (w1.setCell ⟨tb, off, none⟩ (.slice (some ⟨g', 0, none⟩) M cap')).grownBy w2 (some bw)) (htg : tb ≠ g) (htb : tb ≠ bw) (hbg : bw ≠ g) :
    w2.heap[tb]? = some (.cells (cs.setIfInBounds off (.slice (some ⟨g', 0, none⟩) M cap')) t (0, 0)) ∧ w2.ownsRow B e s (.slice (some ⟨g', 0, none⟩) M cap') M xs ∧
      (g' = g ∨ w.heap.size ≤ g') ∧ Only (fun k => k = tb ∨ k = bw ∨ k = g) w w2 := by
  have htw := lt_of_block hblk
  simp only [Value.ownBlock, Option.some.injEq] at hgrow hloc
  have hs0 := h0.size
  have hs1 := hgrow.size
  have htg' : tb ≠ g' := by omega
  have hbg' : bw ≠ g' := by omega
  have hb1 : w1.heap[tb]? = some (.cells cs t (0, 0)) := (hgrow.block tb (by omega) (by simpa using htg)).trans ((h0.block tb htw (by simp)).trans hblk)
  refine ⟨(hgrow2.block tb (by simp; omega) (by simpa using htb)).trans (blk_setCell hb1 _), ?_, by omega, ?_⟩
  · exact (ownsRow_setCell_other hown' (by simp [Value.ownBlock]; omega) _).kept hgrow2 (Or.inr (by simp [Value.ownBlock]; omega))
  · refine ((h0.mono (fun _ _ h => h.elim)).grown hgrow ?_ |>.setCell ?_ _).grown hgrow2 ?_
    · intro k hk _; simp at hk; simp [hk]
    · intro _; simp
    · intro k hk _; simp at hk; simp [hk]

theorem wcells_snoc (ws : List Nat) (x : Nat) : wcells (ws ++ [x]) = wcells ws ++ [Value.int .u64 (x : Nat)] := by simp [wcells]

theorem intern14_miss (B tb off bw n g cap x : Nat) (ws : List Nat) (cs : Array Value) (t : TypeId) (D : DataW Unit) (w : World) (hx : x < 2 ^ 64) (hl : ws.length ≤ 1000000) (hn : n ≤ 1000000) (hB : B ≤ w.heap.size)
    (hblk : w.heap[tb]? = some (.cells cs t (0, 0))) (hcs : cs[off]? = some (.slice (some ⟨g, 0, none⟩) ws.length cap))
    (hrow : w.ownsRow B 34 1 (.slice (some ⟨g, 0, none⟩) ws.length cap) ws.length (wcells ws))
    (hown : w.ownsMap Try.prog 34 (plainElem Try.prog 21) bw n D) (hhas : Maps.has D (.int .u64 x) = false) (htg : tb ≠ g) (htb : tb ≠ bw) (hbg : bw ≠ g) :
    Calls Try.prog 14 #[.pointer (some ⟨tb, off, none⟩), .map (some bw), .int .u64 x, .int .u64 x] w fun e w' => e = .returned (.int .i32 ws.length) ∧
      ∃ g' cap', w'.heap[tb]? = some (.cells (cs.setIfInBounds off (.slice (some ⟨g', 0, none⟩) (ws.length + 1) cap')) t (0, 0)) ∧
        w'.ownsRow B 34 1 (.slice (some ⟨g', 0, none⟩) (ws.length + 1) cap') (ws.length + 1) (wcells (ws ++ [x])) ∧
        w'.ownsMap Try.prog 34 (plainElem Try.prog 21) bw (n + 1) (D.put (.int .u64 x) (.lit (.int .i32 ws.length))) ∧
        (g' = g ∨ w.heap.size ≤ g') ∧ Only (fun k => k = tb ∨ k = bw ∨ k = g) w w' := by
  have hkey := keyOf_int_mk Try.underlying34 (wf_key hx)
  have hc := blk_cell hblk hcs
  have hf := blk_free hblk off
  have htw := lt_of_block hblk
  have hbw := hown.lt
  obtain ⟨i0, hi, hz0, hz1, hz2⟩ := info_parts Try.info34
  go_enter Try.func14, Try.ntmps14
  go_wp2_with (first
    | (at_lookup; refine wpList_lookup_own_ok_int _ rfl _ _ 40 rfl 34 21 .i32 lawK Try.underlying40 Try.underlying21 (zero21 _) bw n D rfl hown _ _ rfl hkey ?_; intro c hat hwc)
    | (at_builtin; refine wpList_append_own_at _ rfl _ _ 33 rfl B 34 i0 (.int .u64 0) 1 8 Try.underlying33 hi hz0 hz1 hz2 rfl (by decide) (.slice (some ⟨g, 0, none⟩) ws.length cap) ws.length (wcells ws) rfl (hrow.alloc _) ⟨w.heap.size, 0, none⟩ 1 1 [.int .u64 x] rfl rfl (cell_one_new _ _ _) (ints_oneCell .u64 [(x : Int)]) (by unfold maxLen; omega) (by omega) (by simp; omega) ?_; intro v' w1 hown' hgrow hnil hloc; obtain ⟨g', cap', hv'⟩ := row_shape hown'; rw [hv'] at hown' hloc; rw [hv']; clear hv' hnil v'; have hbl1 := (hgrow.block tb (by simp; omega) (by simp [Value.ownBlock]; omega)).trans ((Below.heap_alloc _ _ _ htw).trans hblk); have hc1 := blk_cell hbl1 hcs; have hf1 := blk_free hbl1 off; have hm1 := ((hown.alloc (.cells #[.int .u64 x] 34)).kept hgrow (by simp [Value.ownBlock]; omega)).setCell (a := ⟨tb, off, none⟩) (by simp; omega) (.slice (some ⟨g', 0, none⟩) (ws.length + 1) cap'))
    | (at_mapUpdate; refine wpList_mapUpdate_own _ rfl _ _ _ 40 rfl 34 21 lawK Try.underlying40 _ bw n _ rfl hm1 (by unfold maxLen; omega) _ _ _ rfl rfl hkey _ [] (plainElem_int Try.underlying21 (WalkArith.wf_i32 (by omega))) ?_; intro w2 hm2 hgrow2)
    | go_in)
  go_ret
  obtain ⟨r1, r2, r3, r4⟩ := miss_end hblk hbw ((Only.refl _ w).alloc _) hgrow hloc hown' hgrow2 htg htb hbg
  exact ⟨rfl, g', cap', r1, by rw [wcells_snoc]; exact r2, hm2, r3, r4⟩
end Go.Proofs.Qxb6619265a

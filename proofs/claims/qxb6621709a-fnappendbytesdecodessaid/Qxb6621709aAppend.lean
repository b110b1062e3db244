/-
  binary.AppendUvarint, appendBytes: what is appended, and which blocks turn.
-/
import Derived.Test.Qxb6621709aClone
namespace Go.Proofs.Qxb6621709a
open Go.RowKit Go.Maps

/-- From w to w' nothing turned but new blocks and block r; v lies in r or in a new block. -/
def Turn (w : World) (r : Option Nat) (v : Value) (w' : World) : Prop :=
  w.grownBy w' r ∧ (v.ownBlock = r ∨ ∃ g, v.ownBlock = some g ∧ w.heap.size ≤ g)

theorem Turn.refl (w : World) (v : Value) : Turn w v.ownBlock v w := ⟨⟨rfl, rfl, rfl, Nat.le_refl _, fun _ _ _ => rfl⟩, .inl rfl⟩
theorem Turn.alloc {w w1 : World} {r : Option Nat} {v : Value} (h : Turn w r v w1) (o : Obj) : Turn w r v (w1.alloc o) :=
  ⟨⟨h.1.os, h.1.tape, h.1.output, Nat.le_trans h.1.size (by simp), fun k hk hn => (Below.heap_alloc w1 o k (Nat.lt_of_lt_of_le hk h.1.size)).trans (h.1.block k hk hn)⟩, h.2⟩
theorem Turn.drew {w w1 : World} {r : Option Nat} {v : Value} (h : Turn w r v w1) : Turn w r v w1.drew :=
  ⟨⟨h.1.os, h.1.tape, h.1.output, h.1.size, h.1.block⟩, h.2⟩
theorem Turn.step {w w1 w2 : World} {r : Option Nat} {v v' : Value} (h : Turn w r v w1) (hg : w1.grownBy w2 v.ownBlock) (hv : v'.ownBlock = v.ownBlock ∨ v'.ownBlock = some w1.heap.size) : Turn w r v' w2 := by
  refine ⟨⟨hg.os.trans h.1.os, hg.tape.trans h.1.tape, hg.output.trans h.1.output, Nat.le_trans h.1.size hg.size, fun k hk hn => ?_⟩, ?_⟩
  · refine (hg.block k (Nat.lt_of_lt_of_le hk h.1.size) (fun e => ?_)).trans (h.1.block k hk hn)
    rcases h.2 with h2 | ⟨g, h2, h3⟩
    · exact hn (e.trans h2)
    · rw [h2] at e; simp at e; omega
  · rcases hv with hv | hv
    · rw [hv]; exact h.2
    · exact .inr ⟨_, hv, h.1.size⟩
theorem Turn.trans {w w1 w2 : World} {r : Option Nat} {v v' : Value} (h : Turn w r v w1) (h' : Turn w1 v.ownBlock v' w2) : Turn w r v' w2 := by
  refine ⟨⟨h'.1.os.trans h.1.os, h'.1.tape.trans h.1.tape, h'.1.output.trans h.1.output, Nat.le_trans h.1.size h'.1.size, fun k hk hn => ?_⟩, ?_⟩
  · refine (h'.1.block k (Nat.lt_of_lt_of_le hk h.1.size) (fun e => ?_)).trans (h.1.block k hk hn)
    rcases h.2 with h2 | ⟨g, h2, h3⟩
    · exact hn (e.trans h2)
    · rw [h2] at e; simp at e; omega
  · rcases h'.2 with hv | ⟨g, hv, hg⟩
    · rw [hv]; exact h.2
    · exact .inr ⟨g, hv, Nat.le_trans h.1.size hg⟩

/-- 'append(b, c)' for one byte c that lies in a new block: the row is one longer, and no block turns but the row's. -/
theorem push_byte {w0 w : World} {r : Option Nat} {vb : Value} {C : List Value} {c : Int} (hown : w.ownsRow 0 5 1 vb C.length C) (hT : Turn w0 r vb w) (hm : C.length + 1 ≤ 140737488355328)
    {ops : Array Oper} {rest : List Oper} {o : Oper} {a : Act} {Q : Exit → Act → World → Prop} (hgd : o.guard = none) (s x : Operand)
    (ho : o.op = .call { callee := .builtin .append, args := #[s, x], argTypes := #[22, 22] })
    (hs : a.eval s = vb) (hx : a.eval x = .slice (some ⟨w.heap.size, 0, none⟩) 1 1)
    (h : ∀ v' w', w'.ownsRow 0 5 1 v' (C ++ [Value.int .u8 c]).length (C ++ [Value.int .u8 c]) → Turn w0 r v' w' → wpList Try.prog ops Q rest (a.put o.dst v') w') :
    wpList Try.prog ops Q (o :: rest) a (w.alloc (.cells #[.int .u8 c] 5)) := by
  obtain ⟨i, i1, i2, i3, i4⟩ := info_parts Try.info5
  refine wpList_append_own_at _ hgd s x 22 ho 0 5 i (.int .u8 0) 1 1 Try.underlying22 i1 i2 i3 i4 rfl Nat.one_pos vb C.length C hs (hown.alloc _) _ 1 1 [.int .u8 c] hx rfl
    (fun k u hk => ?_) (fun u hu => ?_) (Nat.le_trans hm (by decide)) (by omega) (Nat.zero_le _) (fun v' w' g1 g2 _ g4 => h v' w' ?_ ((hT.alloc _).step g2 g4))
  · cases k with
    | zero => rw [Addr.add_lit, World.cell?_alloc_mark]; simpa using hk
    | succ k => simp at hk
  · rw [List.mem_singleton.1 hu]; rfl
  · rw [List.length_append]; exact g1

/-- The bytes of x's number, told from its least part. -/
theorem cells_step {y : Nat} (h : 128 ≤ y) : Lib.byteCells (Lib.uvarint y) = .int .u8 ((y : Int) % 128 + 128) :: Lib.byteCells (Lib.uvarint (y / 128)) := by
  have e : ((y % 128 + 128).toUInt8.toNat : Nat) = y % 128 + 128 := by
    show (y % 128 + 128) % 256 = _
    omega
  rw [Lib.uvarint_big h]
  simp only [Lib.byteCells, List.map_cons, e]
  rw [show (((y % 128 + 128 : Nat)) : Int) = (y : Int) % 128 + 128 from by omega]
theorem cells_last {y : Nat} (h : y < 128) : Lib.byteCells (Lib.uvarint y) = [.int .u8 (y : Int)] := by
  have e : (y.toUInt8.toNat : Nat) = y := by
    show y % 256 = _
    omega
  rw [Lib.uvarint_small h]
  simp only [Lib.byteCells, List.map_cons, List.map_nil, e]

set_option maxHeartbeats 400000 in
set_option maxRecDepth 100000 in
theorem auv_any (n x : Nat) (hx : x < 18446744073709551616) (sv : Value) (xs : List Value) (w : World) (hown : w.ownsRow 0 5 1 sv n xs) (hlim : n + 10 ≤ 140737488355328) :
    Calls Try.prog 11 #[sv, .int .u64 x] w fun e w' => ∃ v', e = .returned v' ∧ w'.ownsRow 0 5 1 v' (n + (Lib.uvarint x).length) (xs ++ Lib.byteCells (Lib.uvarint x)) ∧ Turn w sv.ownBlock v' w' := by
  obtain ⟨T, hT⟩ : ∃ T, xs ++ Lib.byteCells (Lib.uvarint x) = T := ⟨_, rfl⟩
  have hn : xs.length = n := by simpa using hown.1
  have eT : n + (Lib.uvarint x).length = T.length := by rw [← hT, List.length_append, hn]; simp [Lib.byteCells]
  have hTl : T.length ≤ 140737488355328 := by have := Lib.uvarint_length64 hx; omega
  rw [eT, hT]
  have HT : Hid (xs ++ Lib.byteCells (Lib.uvarint x) = T) := hT
  have HO : Hid (w.ownsRow 0 5 1 sv xs.length xs) := by rw [hn]; exact hown
  clear hT hown hlim eT hn
  go_enter Try.func11, Try.ntmps11
  go_wp2
  go_loopw [0, 1] (fun bv yv wr => ∃ (y : Nat) (C : List Value), yv = .int .u64 y ∧ y < 18446744073709551616 ∧ C ++ Lib.byteCells (Lib.uvarint y) = T ∧ wr.ownsRow 0 5 1 bv C.length C ∧ Turn w sv.ownBlock bv wr) (fun _ yv _ => (intOf yv).toNat)
  case atStart => exact ⟨x, xs, rfl, hx, HT.out, HO.out, Turn.refl _ _⟩
  case round =>
    obtain ⟨y, C, rfl, hy, hC, hO, hU⟩ := hrel
    have hlC : C.length + 1 ≤ T.length := by
      have h1 := Lib.uvarint_pos y
      rw [← hC, List.length_append]
      simp [Lib.byteCells]; omega
    by_cases hbig : 128 ≤ y
    · have hbit : bits .or .u8 ((y : Int) % 256) 128 = (y : Int) % 128 + 128 := by
        rw [Lib.u8_or128_any _ (by omega) (by omega)]; omega
      rw [cells_step hbig] at hC
      have HC : Hid _ := hC
      clear hC
      go_wp2_with (at_builtin; refine push_byte hO hU (by omega) rfl _ _ rfl rfl rfl ?_; intro v' w1 hO1 hU1)
      go_roundw
      case rel => exact ⟨y / 128, C ++ [Value.int .u8 ((y : Int) % 128 + 128)], by go_num, by omega, by rw [List.append_assoc]; exact HC.out, hO1, hU1⟩
      case measure => simp [intOf]; omega
    · rw [cells_last (by omega)] at hC
      have HC : Hid _ := hC
      clear hC
      go_wp2_with (at_builtin; refine push_byte hO hU (by omega) rfl _ _ rfl rfl rfl ?_; intro v' w1 hO1 hU1)
      go_ret
      exact ⟨v', rfl, by rw [← HC.out]; exact hO1, hU1⟩

theorem ab_nil (n : Nat) (sv : Value) (xs : List Value) (w : World) (hown : w.ownsRow 0 5 1 sv n xs) (hlim : n ≤ 1048576) :
    Calls Try.prog 9 #[sv, .slice none 0 0] w fun e w' => ∃ v', e = .returned v' ∧ w'.ownsRow 0 5 1 v' (n + (Lib.uvarint 0).length) (xs ++ Lib.byteCells (Lib.uvarint 0)) ∧ Turn w sv.ownBlock v' w' := by
  have ke := nil_is
  go_enter Try.func9, Try.ntmps9
  go_wp2_with fail
  refine (auv_any n 0 (by omega) sv xs _ hown (by omega)).mono ?_
  rintro e w1 ⟨v', rfl, h1, h2⟩
  go_wp2
  go_ret
  exact ⟨v', rfl, h1, h2⟩

theorem row_bytes {w : World} {g : Nat} {l : List UInt8} (h : Row w g l.length 5 l.length (byteAt l)) (j : Nat) (u : Value) (hj : (Lib.byteCells l)[j]? = some u) : w.cell? ⟨g, j, none⟩ = some u := by
  have hlt : j < l.length := by
    have := (List.getElem?_eq_some_iff.1 hj).1
    simpa [Lib.byteCells] using this
  rw [h.cell hlt, byteAt_of (List.getElem?_eq_getElem hlt)]
  simp [Lib.byteCells, List.getElem?_eq_getElem hlt] at hj
  rw [hj]
theorem byte_one {l : List UInt8} : ∀ u ∈ Lib.byteCells l, u.oneCell' = true := by
  intro u hu
  simp [Lib.byteCells] at hu
  obtain ⟨c, _, rfl⟩ := hu
  rfl

set_option maxHeartbeats 400000 in
theorem ab_some (n : Nat) (sv : Value) (xs : List Value) (g : Nat) (l : List UInt8) (w : World) (hown : w.ownsRow 0 5 1 sv n xs) (hlim : n ≤ 1048576) (hl : l.length ≤ 1048576) (hR : Row w g l.length 5 l.length (byteAt l)) (hne : sv.ownBlock ≠ some g) :
    Calls Try.prog 9 #[sv, .slice (some ⟨g, 0, none⟩) l.length l.length] w fun e w' => ∃ v', e = .returned v' ∧ w'.ownsRow 0 5 1 v' (n + (Lib.uvarint (l.length + 1)).length + l.length) (xs ++ Lib.byteCells (Lib.uvarint (l.length + 1)) ++ Lib.byteCells l) ∧ Turn w sv.ownBlock v' w' := by
  obtain ⟨i0, hi, hz0, hz1, hz2⟩ := info_parts Try.info5
  have ke := nil_is
  obtain ⟨m, hm⟩ : ∃ m, l.length = m := ⟨_, rfl⟩
  have HM : Hid (l.length = m) := hm
  rw [hm] at hl ⊢
  clear hm
  have hlen := Lib.uvarint_length64 (x := m + 1) (by omega)
  go_enter Try.func9, Try.ntmps9
  go_wp2_with fail
  rw [show ((m : Int) + 1) = ((m + 1 : Nat) : Int) from by omega]
  refine (auv_any n (m + 1) (by omega) sv xs _ hown (by omega)).mono ?_
  rintro e w1 ⟨v1, rfl, h1, h2⟩
  have hR1 : Row w1 g l.length 5 l.length (byteAt l) := hR.kept (h2.1.block g hR.lt (fun e => hne e.symm))
  go_wp2_with (at_builtin; refine wpList_append_own_at _ rfl _ _ 22 rfl 0 5 i0 (.int .u8 0) 1 1 Try.underlying22 hi hz0 hz1 hz2 rfl (by decide) _ _ _ rfl h1 ⟨g, 0, none⟩ m m (Lib.byteCells l) rfl ?c0 ?c1 ?c2 ?c3 ?c4 ?c5 ?_)
  case c0 => simp [Lib.byteCells, HM.out]
  case c1 => intro j u hj; rw [Addr.add_lit, Nat.zero_add]; exact row_bytes hR1 j u hj
  case c2 => exact byte_one
  case c3 => unfold maxLen; omega
  case c4 => omega
  case c5 => omega
  intro v' w2 hown' hgrow _ hloc
  go_wp2
  go_ret
  exact ⟨v', rfl, by rw [List.append_assoc]; exact hown', h2.step hgrow hloc⟩

theorem Has.owns {w : World} {oa : Option Addr} {l : List UInt8} (h : Has w oa l) (hl : l.length ≤ 1048576) : w.ownsRow 0 5 1 (.slice oa l.length l.length) l.length (Lib.byteCells l) := by
  rcases h with ⟨rfl, rfl⟩ | ⟨g, rfl, cs, h1, h2, h3⟩
  · exact ⟨rfl, .inl ⟨rfl, rfl⟩⟩
  · refine ⟨by simp [Lib.byteCells], .inr ⟨g, l.length, cs, rfl, Nat.zero_le _, h1, Nat.le_refl _, by unfold maxLen; omega, by omega, ?_⟩⟩
    apply List.ext_getElem?
    intro j
    by_cases hj : j < l.length
    · rw [List.getElem?_take_of_lt (by omega), Array.getElem?_toList, h3 j hj, byteAt_of (List.getElem?_eq_getElem hj)]
      simp [Lib.byteCells, List.getElem?_eq_getElem hj]
    · rw [List.getElem?_eq_none (by simp; omega), List.getElem?_eq_none (by simp [Lib.byteCells]; omega)]

/-- What appendBytes adds. -/
def mark (op : Option Addr) (l : List UInt8) : Nat := if op.isNone = true then 0 else l.length + 1
def rec8 (op : Option Addr) (l : List UInt8) : List UInt8 := Lib.uvarint (mark op l) ++ l

theorem bytes_app (a b : List UInt8) : Lib.byteCells (a ++ b) = Lib.byteCells a ++ Lib.byteCells b := by simp [Lib.byteCells]

/-- A row of bytes to be read. -/
def Reads8 (w : World) (g : Nat) (l : List UInt8) : Prop := ∀ j c, l[j]? = some c → w.cell? ⟨g, j, none⟩ = some (.int .u8 (c.toNat : Nat))

theorem reads_of {w : World} {g cap : Nat} {l : List UInt8} (h : w.ownsRow 0 5 1 (.slice (some ⟨g, 0, none⟩) l.length cap) l.length (Lib.byteCells l)) : Reads8 w g l := by
  intro j c hj
  have hlt := (List.getElem?_eq_some_iff.1 hj).1
  rw [h.cellAt j (by omega)]
  simp [Lib.byteCells, hj]

theorem ab_any {w : World} {ob op : Option Addr} {lb lp : List UInt8} (hb : Has w ob lb) (hp : Has w op lp) (h1 : lb.length ≤ 1048576) (h2 : lp.length ≤ 1048576) (hne : ∀ x y, ob = some x → op = some y → x.block ≠ y.block) :
    Calls Try.prog 9 #[.slice ob lb.length lb.length, .slice op lp.length lp.length] w fun e w' => ∃ g cap, e = .returned (.slice (some ⟨g, 0, none⟩) (lb ++ rec8 op lp).length cap) ∧ Reads8 w' g (lb ++ rec8 op lp) ∧ w.grownBy w' (Value.slice ob lb.length lb.length).ownBlock := by
  have hown := hb.owns h1
  rcases hp with ⟨rfl, rfl⟩ | ⟨g, rfl, hR⟩
  · refine (ab_nil lb.length _ _ w hown h1).mono ?_
    rintro e w' ⟨v', rfl, h3, h4⟩
    have e1 : lb.length + (Lib.uvarint 0).length = (lb ++ rec8 none []).length := by simp [rec8, mark]
    have e2 : Lib.byteCells lb ++ Lib.byteCells (Lib.uvarint 0) = Lib.byteCells (lb ++ rec8 none []) := by simp [rec8, mark, bytes_app]
    rw [e1, e2] at h3
    obtain ⟨g, cap, rfl, _⟩ := h3.form (by rw [← e1]; have := Lib.uvarint_pos 0; omega)
    exact ⟨g, cap, rfl, reads_of h3, h4.1⟩
  · refine (ab_some lb.length _ _ g lp w hown h1 h2 hR ?_).mono ?_
    · intro e
      cases ob with
      | none => simp [Value.ownBlock] at e
      | some x => simp [Value.ownBlock] at e; exact hne x _ rfl rfl e
    · rintro e w' ⟨v', rfl, h3, h4⟩
      have e1 : lb.length + (Lib.uvarint (lp.length + 1)).length + lp.length = (lb ++ rec8 (some ⟨g, 0, none⟩) lp).length := by simp [rec8, mark]; omega
      have e2 : Lib.byteCells lb ++ Lib.byteCells (Lib.uvarint (lp.length + 1)) ++ Lib.byteCells lp = Lib.byteCells (lb ++ rec8 (some ⟨g, 0, none⟩) lp) := by simp [rec8, mark, bytes_app]
      rw [e1, e2] at h3
      obtain ⟨g, cap, rfl, _⟩ := h3.form (by rw [← e1]; have := Lib.uvarint_pos (lp.length + 1); omega)
      exact ⟨g, cap, rfl, reads_of h3, h4.1⟩

theorem zzab_any {w : World} {ob op : Option Addr} {lb lp : List UInt8} (hb : Has w ob lb) (hp : Has w op lp) (h1 : lb.length ≤ 1048576) (h2 : lp.length ≤ 1048576) (hne : ∀ x y, ob = some x → op = some y → x.block ≠ y.block) :
    Calls Try.prog 6 #[.slice ob lb.length lb.length, .slice op lp.length lp.length] w fun e w' => ∃ g cap, e = .returned (.slice (some ⟨g, 0, none⟩) (lb ++ rec8 op lp).length cap) ∧ Reads8 w' g (lb ++ rec8 op lp) ∧ w.grownBy w' (Value.slice ob lb.length lb.length).ownBlock := by
  have H := ab_any hb hp h1 h2 hne
  obtain ⟨out, ho⟩ : ∃ out, lb ++ rec8 op lp = out := ⟨_, rfl⟩
  rw [ho] at H ⊢
  clear hb hp hne ho
  obtain ⟨row, hr⟩ : ∃ row, (Value.slice ob lb.length lb.length).ownBlock = row := ⟨_, rfl⟩
  rw [hr] at H ⊢
  clear hr
  have HH : Hid (Calls Try.prog 9 #[.slice ob lb.length lb.length, .slice op lp.length lp.length] w fun e w' => ∃ g cap, e = .returned (.slice (some ⟨g, 0, none⟩) out.length cap) ∧ Reads8 w' g out ∧ w.grownBy w' row) := H
  clear H
  go_enter Try.func6, Try.ntmps6
  go_wp2_with fail
  refine HH.out.mono ?_
  rintro e w' ⟨g, cap, rfl, h3, h4⟩
  go_wp2
  go_ret
  exact ⟨g, cap, rfl, h3, h4⟩
end Go.Proofs.Qxb6621709a

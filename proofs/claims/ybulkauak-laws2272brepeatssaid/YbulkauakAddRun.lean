import Derived.Test.YbulkauakSplit
import Derived.Deep.RegionLawGrows
import Derived.Deep.RegionWith
namespace Go.Proofs.Ybulkauak
open Go.RowKit

/-- How many parts a holds ahead of the cycle's. -/
def nlOf (len : Nat) : Nat := if len = 0 then 0 else 1

theorem split_any (bx be len : Nat) (c i t : Int) (w : World) (h : Vals w bx be len len) (hl : len ≤ 2000)
    (hb : Blk w bx #[.slice (some ⟨be, 0, none⟩) len len, .int .i64 c, .int .i64 i, .int .i64 t] 29) :
    Calls Yba.prog 14 #[.pointer (some ⟨bx, 0, none⟩)] w fun e w' => ∃ N E nl ao olds, e = .returned (.pointer (some ⟨N, 0, none⟩)) ∧ Hid (nl = nlOf len) ∧
      Splat w w' bx len N E nl ao olds c i t := by
  by_cases h0 : len = 0
  · subst h0
    exact (split_none bx be 0 c i t w h hb).mono fun e w' ⟨he, hs⟩ => ⟨_, _, _, _, _, he, rfl, hs⟩
  · exact (split_some bx be len c i t w h hl (by omega) hb).mono fun e w' ⟨he, hs⟩ => ⟨_, _, _, _, _, he, (if_neg h0).symm, hs⟩

theorem info38 : ∃ i0, Yba.prog.info? 38 = some i0 ∧ i0.zero = some (.agg #[.pointer none, .int .i64 0, .bool false]) ∧ i0.size = 3 ∧ i0.bytes = 24 := by
  have h : (Yba.prog.info? 38).map (fun i => (i.zero, i.size, i.bytes)) = some (some (.agg #[.pointer none, .int .i64 0, .bool false]), 3, 24) := by kernel_rfl
  obtain ⟨i0, h1, h2⟩ := Option.map_eq_some_iff.1 h
  simp only [Prod.mk.injEq] at h2
  exact ⟨i0, h1, h2.1, h2.2.1, h2.2.2⟩

/-- The list of parts behind an append that grew it. -/
structure Listed (w w' : World) (g nl : Nat) (olds : List Value) (v1 v2 v3 : Value) : Prop where
  ge : w.heap.size ≤ g
  row : ∃ cur, Blk w' g cur 38 ∧ cur.toList.take ((nl + 1) * 3) = olds ++ [v1, v2, v3]
  turn : Turn (fun _ => False) w w'

theorem step_parts {ops : Array Oper} {o : Oper} {a : Act} {w : World} {K : Act → World → Prop} {Q : Exit → Act → World → Prop} {E : Prop}
    (hg : o.guard = none) (s x : Operand) (hop : o.op = Op.call { callee := Callee.builtin Builtin.append, args := #[s, x], argTypes := #[34, 34] })
    (ao : Option Addr) (nl : Nat) (olds : List Value) (hs : a.eval s = .slice ao nl nl) (b : Nat) (hx : a.eval x = .slice (some ⟨b, 0, none⟩) 1 1)
    (hnl : nl ≤ 1) (hnone : ao = none → nl = 0) (h3 : olds.length = nl * 3) (hold : ∀ p, ao = some p → ∃ L, p = ⟨L, 0, none⟩ ∧ Blk w L olds.toArray 38)
    (v1 v2 v3 : Value) (hnew : Blk w b #[v1, v2, v3] 38) (h1c : v1.oneCell' = true ∧ v2.oneCell' = true ∧ v3.oneCell' = true)
    (hK : ∀ g cap w', Listed w w' g nl olds v1 v2 v3 → K (a.put o.dst (.slice (some ⟨g, 0, none⟩) (nl + 1) cap)) w') :
    if Region.wanted o (yielded ops a.tmps) = true then Oper.wp Yba.prog o a w K Q else E := by
  obtain ⟨i0, e1, e2, e3, e4⟩ := info38
  refine step_append_grows hg s x 34 hop 38 i0 _ 3 24 Yba.underlying34 e1 e2 e3 e4 rfl (by decide) ao nl nl olds hs (fun h => ⟨hnone h, hnone h⟩) h3 ?_ ⟨b, 0, none⟩ 1 1 [v1, v2, v3] hx rfl ?_ ?_ (by omega) (by unfold maxLen; omega) (by omega) ?_
  · intro p hp j u hu
    obtain ⟨L, rfl, hb⟩ := hold p hp
    have := hb.cell j (v := u) (by simpa using hu)
    rw [Addr.add_lit, Nat.zero_add]; exact this
  · intro j u hu
    have := hnew.cell j (v := u) (by simpa using hu)
    rw [Addr.add_lit, Nat.zero_add]; exact this
  · intro u hu
    simp only [List.mem_cons, List.not_mem_nil, or_false] at hu
    rcases hu with rfl | rfl | rfl
    · exact h1c.1
    · exact h1c.2.1
    · exact h1c.2.2
  · intro v' w' hown hgr
    obtain ⟨_, h0 | ⟨g, cap, cur, rfl, hge, hh, _, _, _, ht⟩⟩ := hown
    · omega
    · exact hK g cap w' ⟨hge, ⟨cur, hh, ht⟩, ⟨hgr.os, hgr.tape, hgr.output, hgr.size, fun k hk _ => hgr.block k hk (by simp)⟩⟩

/-- Behind the append and its store: the parts hold one part more. -/
structure Mid (w w' : World) (bx bt len : Nat) (n : Int) (N E g cap nl : Nat) (c i t : Int) : Prop where
  parts : Blk w' N #[.slice (some ⟨g, 0, none⟩) (nl + 1) cap, .int .i64 n] 36
  box : Blk w' E #[.iface 31 (.pointer (some ⟨N, 0, none⟩))] 24
  arr : Blk w' bx #[.slice (some ⟨E, 0, none⟩) 1 1, .int .i64 c, .int .i64 i, .int .i64 t] 29
  row : ∃ cur olds, Blk w' g cur 38 ∧ cur.toList.take ((nl + 1) * 3) = olds ++ [.pointer (some ⟨bt, 0, none⟩), .int .i64 len, .bool true] ∧ olds.length = nl * 3
  ge : w.heap.size ≤ N ∧ N < E ∧ w.heap.size ≤ g ∧ N ≠ g ∧ E ≠ g
  turn : Turn (· = bx) w w'

theorem Mid.setN {w w' : World} {bx bt len : Nat} {n : Int} {N E g cap nl : Nat} {c i t : Int} (hb : bx < w.heap.size) (h : Mid w w' bx bt len n N E g cap nl c i t) (m : Int) :
    Mid w (w'.setCell ⟨N, 1, none⟩ (.int .i64 m)) bx bt len m N E g cap nl c i t := by
  have g0 := h.ge
  refine ⟨h.parts.set 1 _, h.box.set_other (by show N ≠ E; omega) _, h.arr.set_other (by show N ≠ bx; omega) _, ?_, h.ge, h.turn.set (Or.inr g0.1) _⟩
  obtain ⟨cur, olds, h1, h2, h3⟩ := h.row
  exact ⟨cur, olds, h1.set_other (by show N ≠ g; omega) _, h2, h3⟩

theorem Mid.joined {w w' w'' : World} {bx bt len : Nat} {n : Int} {N E g cap nl : Nat} {c i t c2 i2 t2 : Int} (hb : bx < w.heap.size) (h : Mid w w' bx bt len n N E g cap nl c i t)
    (ha : Blk w'' bx #[.slice (some ⟨E, 0, none⟩) 1 1, .int .i64 c2, .int .i64 i2, .int .i64 t2] 29) (ht : Turn (· = bx) w' w'') :
    Mid w w'' bx bt len n N E g cap nl c2 i2 t2 := by
  have g0 := h.ge
  refine ⟨ht.blk h.parts (by show N ≠ bx; omega), ht.blk h.box (by show E ≠ bx; omega), ha, ?_, h.ge, h.turn.trans ht⟩
  obtain ⟨cur, olds, h1, h2, h3⟩ := h.row
  exact ⟨cur, olds, ht.blk h1 (by show g ≠ bx; omega), h2, h3⟩

theorem mid_of {w w1 w2 : World} {bx bt len N E g cap nl : Nat} {ao : Option Addr} {olds : List Value} {c i t : Int} {o : Obj} (hb : bx < w.heap.size) (hs : Splat w w1 bx len N E nl ao olds c i t)
    (hL : Listed (w1.alloc o).drew w2 g nl olds (.pointer (some ⟨bt, 0, none⟩)) (.int .i64 len) (.bool true)) :
    Mid w (w2.setCell ⟨N, 0, none⟩ (.slice (some ⟨g, 0, none⟩) (nl + 1) cap)) bx bt len len N E g cap nl c i t := by
  have a1 := hs.parts.lt
  have a2 := hs.box.lt
  have a3 := hs.lt
  have a4 := hL.ge
  have a5 : w1.heap.size + 1 ≤ g := by simpa using a4
  have a6 := hs.turn.size
  refine ⟨?_, ?_, ?_, ?_, ⟨a3.1, a3.2, by omega, by omega, by omega⟩, ?_⟩
  · exact (hL.turn.blk (hs.parts.alloc _).drew id).set 0 _
  · exact (hL.turn.blk (hs.box.alloc _).drew id).set_other (by show N ≠ E; omega) _
  · exact (hL.turn.blk (hs.arr.alloc _).drew id).set_other (by show N ≠ bx; omega) _
  · obtain ⟨cur, hc, ht⟩ := hL.row
    exact ⟨cur, olds, hc.set_other (by show N ≠ g; omega) _, ht, hs.olds3⟩
  · exact (((hs.turn.alloc o).drew.then hL.turn (fun _ h => h.elim))).set (Or.inr a3.1) _

set_option maxHeartbeats 1000000 in
theorem addRun_any (bx be len bt be2 bc k : Nat) (c i t c' i' t' : Int) (w : World) (h : Vals w bx be len len) (hl : len ≤ 2000) (_hk : k ≤ 2000)
    (hb : Blk w bx #[.slice (some ⟨be, 0, none⟩) len len, .int .i64 c, .int .i64 i, .int .i64 t] 29)
    (hbt : Blk w bt #[.slice (some ⟨be2, 0, none⟩) 1 1, .int .i64 c', .int .i64 i', .int .i64 t'] 29)
    (n1 : bt ≠ bx) (n2 : be2 ≠ bx) (n3 : bc ≠ bx) (hbe : Blk w be2 #[.iface 39 (.pointer (some ⟨bc, 0, none⟩))] 24) (hbc : w.cell? ⟨bc, 5, none⟩ = some (.int .i64 k)) :
    Calls Yba.prog 11 #[.pointer (some ⟨bx, 0, none⟩), .pointer (some ⟨bt, 0, none⟩), .bool true] w fun e w' => e = .returned (.tuple #[]) ∧
      ∃ N E g cap nl, Hid (nl = nlOf len) ∧ Mid w w' bx bt len (len + k) N E g cap nl (joinC (decide (0 < len)) c c') (joinI i i') (wrap64 (t + t')) := by
  have hbx := hb.lt
  go_enter Yba.func11, Yba.ntmps11
  go_wp2_with fail
  refine (len_vals h).mono ?_
  rintro e w' ⟨rfl, rfl⟩
  go_wp2_with fail
  refine (inParts_vals h).mono ?_
  rintro e w' ⟨rfl, rfl⟩
  go_wp2_with fail
  refine (split_any bx be len c i t w h hl hb).mono ?_
  rintro e w1 ⟨N, E, nl, ao, olds, rfl, HN, hs⟩
  have hnl : nl ≤ 1 := by have := HN.out; unfold nlOf at this; split at this <;> omega
  have p0 := hs.parts.cell 0 rfl
  have p1 := hs.parts.cell 1 rfl
  have pf := hs.parts.frozen 0
  have plt := hs.parts.lt
  simp only [List.getElem_toArray, List.getElem_cons_zero, List.getElem_cons_succ] at p0 p1
  go_wp2_with fail
  go_region_law (refine step_parts rfl (.tmp 21) (.tmp 29) rfl ao nl olds (by simp [Act.eval]) w1.heap.size (by simp [Act.eval]) hnl hs.ifNone hs.olds3 (by intro p hp; obtain ⟨L, h1, h2, h3, h4⟩ := hs.ifSome p hp; exact ⟨L, h1, h4.alloc _⟩) _ _ _ (by exact Blk.new w1 #[.pointer (some ⟨bt, 0, none⟩), .int .i64 len, .bool true] 38) ⟨rfl, rfl, rfl⟩ ?_; intro g cap w2 hL; have q0 := (hL.turn.blk (hs.parts.alloc _) id).cell 0 rfl; have qf := (hL.turn.blk (hs.parts.alloc _) id).frozen 0)
  all_goals go_wp2_with fail
  all_goals
    have hM := mid_of (cap := cap) hbx hs hL
    clear q0 qf hL p0 p1 pf plt hs
    have hT := hM.turn.blk hbt n1
    have hE := hM.turn.blk hbe n2
    have hC := (hM.turn.cell (World.block_lt_of_cell? w _ hbc) n3).trans hbc
    revert hM hT hE hC
    generalize w2.setCell { block := N, off := 0 } (Value.slice (some { block := g, off := 0 }) (nl + 1) cap) = w3
    intro hM hT hE hC
    have hwr : IntKind.i64.wrap ((len : Int) + k) = (len : Int) + k := by rw [IntKind.wrap_i64]; omega
    have p1 := hM.parts.cell 1 rfl
    have pf := hM.parts.frozen 1
    simp only [List.getElem_toArray, List.getElem_cons_zero, List.getElem_cons_succ] at p1
    go_region_with (go_at_call 6; refine (len_cyc bt be2 0 bc 1 k _ (by exact hT.cell 0 rfl) (by exact hE.cell 0 rfl) (by exact hC)).mono ?_; rintro e w' ⟨rfl, rfl⟩)
  all_goals go_wp2_with fail
  all_goals
    replace hM := hM.setN hbx ((len : Int) + k)
    have hT := hM.turn.blk hbt n1
    clear hE hC p1 pf hwr
    revert hM hT
    generalize w3.setCell { block := N, off := 1 } (Value.int IntKind.i64 ((len : Int) + k)) = w4
    intro hM hT
    have t1 := hT.cell 1 rfl
    have t2 := hT.cell 2 rfl
    have t3 := hT.cell 3 rfl
    simp only [List.getElem_toArray, List.getElem_cons_zero, List.getElem_cons_succ] at t1 t2 t3
    go_region_with (go_at_call 12; refine (join_any (decide (0 < len)) bx _ c i t c' i' t' _ (by exact hM.arr)).mono ?_; rintro e w5 ⟨rfl, hj, ht5⟩)
  all_goals go_end0
  all_goals exact ⟨rfl, N, E, g, cap, nl, HN, hM.joined hbx hj (((Turn.refl _ w4).drew.drew).trans ht5)⟩

end Go.Proofs.Ybulkauak

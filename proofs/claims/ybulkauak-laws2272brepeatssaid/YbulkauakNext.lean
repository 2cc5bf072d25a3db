import Derived.Test.YbulkauakAddCyc
namespace Go.Proofs.Ybulkauak
open Go.RowKit

theorem neq25 (a b : Nat) {ca cb : Array Value} {ta tb : TypeId} (hne : a ≠ b) (w : World) (ha : Blk w a ca ta) (hb : Blk w b cb tb) :
    (binOp .neq 25 (.pointer (some ⟨a, 0, none⟩)) (.pointer (some ⟨b, 0, none⟩))).run Yba.prog w = .ok (.bool true) w := by
  obtain ⟨j, hj, hsz⟩ := Option.map_eq_some_iff.1 (show (Yba.prog.info? 29).map (fun i => i.size) = some 4 by kernel_rfl)
  have hp : Yba.prog.underlying 25 = some (.pointer 29) := by kernel_rfl
  have hn : (⟨a, 0, none⟩ : Addr) ≠ ⟨b, 0, none⟩ := fun e => hne (congrArg Addr.block e)
  have h : ∀ d : Nat, (Op.equalIn (d + 1) 25 (.pointer (some ⟨a, 0, none⟩)) (.pointer (some ⟨b, 0, none⟩))).run Yba.prog w = .ok false w := fun d => by
    simp [Op.equalIn, run_underlying hp, sizeOf, typeInfo, hj, hsz, run_sameAddr_other w hn ha hb]
  simp only [binOp]
  simp [Op.equal, Op.maxDepth, h 9999]

theorem row_cells {cur : Array Value} {olds : List Value} {nl : Nat} {a b d : Value} (h : cur.toList.take ((nl + 1) * 3) = olds ++ [a, b, d]) (h3 : olds.length = nl * 3) :
    cur[nl * 3]? = some a ∧ cur[nl * 3 + 1]? = some b ∧ cur[nl * 3 + 2]? = some d := by
  have g : ∀ j v, j < 3 → (olds ++ [a, b, d])[nl * 3 + j]? = some v → cur[nl * 3 + j]? = some v := by
    intro j v hj hv
    rw [← h, List.getElem?_take] at hv
    split at hv
    · simpa using hv
    · cases hv
  refine ⟨g 0 a (by omega) ?_, g 1 b (by omega) ?_, g 2 d (by omega) ?_⟩
  all_goals (rw [List.getElem?_append_right (by omega), h3]; simp)

theorem tail_parts (bx be oe bp g bt nl : Nat) (cap cap2 : Nat) (cur : Array Value) (olds : List Value) (len : Int) (w : World)
    (hc : w.cell? ⟨bx, 0, none⟩ = some (.slice (some ⟨be, oe, none⟩) 1 cap)) (he : w.cell? ⟨be, oe, none⟩ = some (.iface 31 (.pointer (some ⟨bp, 0, none⟩))))
    (hl : w.cell? ⟨bp, 0, none⟩ = some (.slice (some ⟨g, 0, none⟩) (nl + 1) cap2)) (hg : Blk w g cur 38)
    (hr : cur.toList.take ((nl + 1) * 3) = olds ++ [.pointer (some ⟨bt, 0, none⟩), .int .i64 len, .bool true]) (h3 : olds.length = nl * 3) (hnl : nl ≤ 1) :
    Calls Yba.prog 9 #[.pointer (some ⟨bx, 0, none⟩)] w fun e w' => e = .returned (.pointer (some ⟨bt, 0, none⟩)) ∧ w = w' := by
  obtain ⟨c0, c1, c2⟩ := row_cells hr h3
  rcases (show nl = 0 ∨ nl = 1 by omega) with rfl | rfl
  · exact tail_parts1 bx be oe bp g bt cap cap2 w hc he hl (hg.cell 2 c2) (hg.cell 0 c0)
  · exact tail_parts2 bx be oe bp g bt cap cap2 w hc he hl (hg.cell 5 c2) (hg.cell 3 c0)

/-- What a later addCycle leaves. -/
def AfterN (w w' : World) (A R re k rcap len N E g cap nl T E2 C m : Nat) (c i t tc ti tt rc rin ri : Int) (recs : Array Value) : Prop :=
  St w' A R re k rcap len N E g cap nl T E2 C (m + 1) (m + 1) (joinC true c rc) (joinI i rin) (wrap64 (t + ri)) (joinC true tc rc) (joinI ti rin) (wrap64 (tt + ri)) rc rin ri recs ∧ Turn (fun b => b = A ∨ b = T ∨ b = C ∨ b = N) w w'

set_option maxHeartbeats 1000000 in
theorem addCycle_next (A R re k rcap len N E g cap nl T E2 C m : Nat) (c i t tc ti tt rc rin ri : Int) (recs : Array Value) (w : World) (h : St w A R re k rcap len N E g cap nl T E2 C m m c i t tc ti tt rc rin ri recs)
    (hk : 0 < k) (hk2 : k ≤ 2000) (hm : m ≤ 5) (hl : len ≤ 2000) (hnl : nl ≤ 1) (hm0 : 0 < m) :
    Calls Yba.prog 4 #[.pointer (some ⟨A, 0, none⟩), .pointer (some ⟨R, 0, none⟩)] w fun e w' => e = .returned (.tuple #[]) ∧ AfterN w w' A R re k rcap len N E g cap nl T E2 C m c i t tc ti tt rc rin ri recs := by
  obtain ⟨cur, olds, w1, w2, w3⟩ := h.row
  obtain ⟨q, hq⟩ : ∃ q : Nat, q = m * k := ⟨_, rfl⟩
  have hq1 : q ≤ 5 * 2000 := hq ▸ Nat.mul_le_mul hm hk2
  have hq0 : 0 < q := hq ▸ Nat.mul_pos hm0 hk
  have hq2 : q + k = (m + 1) * k := by rw [hq, Nat.succ_mul]
  have HQ : Hid (q = m * k) := hq
  have HQ2 : Hid (q + k = (m + 1) * k) := hq2
  clear hq hq2
  go_enter Yba.func4, Yba.ntmps4
  go_wp2_with fail
  refine (tail_parts A E 0 N g T nl 1 cap cur olds len w (h.arr.cell 0 rfl) (h.box.cell 0 rfl) (h.parts.cell 0 rfl) w1 w2 w3 hnl).mono ?_
  rintro e w' ⟨rfl, rfl⟩
  go_wp2_with fail
  refine (len_vals h.vals).mono ?_
  rintro e w' ⟨rfl, rfl⟩
  go_wp2_with fail
  refine (goingOn_yes T E2 C R re k rcap m 1 w h.vals (h.tarr.cell 0 rfl) (h.tbox.cell 0 rfl) (h.cyc.cell 0 rfl) (h.cyc.cell 4 rfl) (h.cyc.cell 5 rfl) hk hk2 hm).mono ?_
  rintro e w' ⟨rfl, nq, rfl⟩
  go_wp2_with fail
  refine (len_parts A E 0 N 1 ((len : Int) + (m * k : Nat)) (w.drewN nq) (h.arr.cell 0 rfl) (h.box.cell 0 rfl) (h.parts.cell 1 rfl)).mono ?_
  rintro e w' ⟨rfl, rfl⟩
  have cn := (h.drewN nq).cyc.cell 5 rfl
  have cf := (h.drewN nq).cyc.frozen 5
  rw [← HQ.out]
  simp only [List.getElem_toArray, List.getElem_cons_zero, List.getElem_cons_succ, ← HQ.out] at cn
  have hdec : decide ((0 : Int) < (len : Int) + (q : Int)) = true := by simp; omega
  go_wp2_with fail
  have hS : St ((w.drewN nq).setCell ⟨C, 5, none⟩ (.int .i64 ((q : Int) + k))) A R re k rcap len N E g cap nl T E2 C m (m + 1) c i t tc ti tt rc rin ri recs := by
    refine (h.drewN nq).turnC (((Turn.refl (· = C) _).set (p := ⟨C, 5, none⟩) (Or.inl rfl) _)) (m + 1) ?_
    rw [← HQ2.out]
    exact (h.drewN nq).cyc.set 5 _
  have hT1 : Turn (fun b => b = A ∨ b = T ∨ b = C ∨ b = N) w ((w.drewN nq).setCell ⟨C, 5, none⟩ (.int .i64 ((q : Int) + k))) :=
    ((Turn.refl _ w).drewN nq).set (p := ⟨C, 5, none⟩) (Or.inl (Or.inr (Or.inr (Or.inl rfl)))) _
  clear cn cf hdec
  revert hS hT1
  generalize (w.drewN nq).setCell { block := C, off := 5 } (Value.int IntKind.i64 ((q : Int) + k)) = u1
  intro hS hT1
  have r1 := hS.run.cell 1 rfl
  have r2 := hS.run.cell 2 rfl
  have r3 := hS.run.cell 3 rfl
  simp only [List.getElem_toArray, List.getElem_cons_zero, List.getElem_cons_succ] at r1 r2 r3
  go_region_with (go_at_call 12; refine (join_any true T _ tc ti tt rc rin ri _ (by exact hS.tarr)).mono ?_; rintro e u2 ⟨rfl, hj, ht⟩)
  clear r1 r2 r3
  replace hT1 := hT1.trans ((((Turn.refl (· = T) u1).drew.trans ht)).weak (fun b e => Or.inr (Or.inl e)))
  replace hS := hS.turnT ((Turn.refl _ u1).drew.trans ht) hj
  have hne := neq25 T A hS.ne.1.symm u2 hS.tarr hS.arr
  clear hj ht
  go_wp2_with fail
  refine (inParts_yes A E 0 1 _ u2 (hS.arr.cell 0 rfl) (hS.box.cell 0 rfl)).mono ?_
  rintro e w' ⟨rfl, rfl⟩
  have pn := hS.parts.cell 1 rfl
  have pf := hS.parts.frozen 1
  simp only [List.getElem_toArray, List.getElem_cons_zero, List.getElem_cons_succ, ← HQ.out] at pn
  go_wp2_with fail
  replace hT1 := hT1.set (p := ⟨N, 1, none⟩) (Or.inl (Or.inr (Or.inr (Or.inr rfl)))) (.int .i64 ((len : Int) + q + k))
  replace hS : St (u2.setCell ⟨N, 1, none⟩ (.int .i64 ((len : Int) + q + k))) A R re k rcap len N E g cap nl T E2 C (m + 1) (m + 1) c i t (joinC true tc rc) (joinI ti rin) (wrap64 (tt + ri)) rc rin ri recs := by
    refine hS.turnN (((Turn.refl (· = N) _).set (p := ⟨N, 1, none⟩) (Or.inl rfl) _)) (m + 1) ?_
    rw [← HQ2.out, show ((len : Int) + ((q + k : Nat) : Int)) = (len : Int) + q + k by omega]
    exact hS.parts.set 1 _
  clear pn pf hne
  revert hS hT1
  generalize u2.setCell { block := N, off := 1 } (Value.int IntKind.i64 ((len : Int) + q + k)) = u3
  intro hT1 hS
  have r1 := hS.run.cell 1 rfl
  have r2 := hS.run.cell 2 rfl
  have r3 := hS.run.cell 3 rfl
  simp only [List.getElem_toArray, List.getElem_cons_zero, List.getElem_cons_succ] at r1 r2 r3
  go_region_with (go_at_call 12; refine (join_any true A _ c i t rc rin ri _ (by exact hS.arr)).mono ?_; rintro e u4 ⟨rfl, hj, ht⟩)
  go_end0
  exact ⟨rfl, hS.turnA ((Turn.refl _ u3).drew.trans ht) hj, hT1.trans ((((Turn.refl (· = A) u3).drew.trans ht)).weak (fun b e => Or.inl e))⟩

end Go.Proofs.Ybulkauak

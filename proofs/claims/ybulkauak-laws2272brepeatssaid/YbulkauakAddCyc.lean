import Derived.Test.YbulkauakAddRun
namespace Go.Proofs.Ybulkauak
open Go.RowKit

theorem Blk.ne {w : World} {b b' : Nat} {cs cs' : Array Value} {t t' : TypeId} (h : Blk w b cs t) (h' : Blk w b' cs' t') (hne : t ≠ t') : b ≠ b' := by
  intro e
  subst e
  unfold Blk at h h'
  rw [h] at h'
  simp at h'
  exact hne h'.2

/-- Behind m copies (m at least 1; the cycle counts mc): what a holds. -/
structure St (w : World) (A R re k rcap len N E g cap nl T E2 C m mc : Nat) (c i t tc ti tt rc rin ri : Int) (recs : Array Value) : Prop where
  arr : Blk w A #[.slice (some ⟨E, 0, none⟩) 1 1, .int .i64 c, .int .i64 i, .int .i64 t] 29
  box : Blk w E #[.iface 31 (.pointer (some ⟨N, 0, none⟩))] 24
  parts : Blk w N #[.slice (some ⟨g, 0, none⟩) (nl + 1) cap, .int .i64 (len + (m * k : Nat))] 36
  row : ∃ cur olds, Blk w g cur 38 ∧ cur.toList.take ((nl + 1) * 3) = olds ++ [.pointer (some ⟨T, 0, none⟩), .int .i64 len, .bool true] ∧ olds.length = nl * 3
  tarr : Blk w T #[.slice (some ⟨E2, 0, none⟩) 1 1, .int .i64 tc, .int .i64 ti, .int .i64 tt] 29
  tbox : Blk w E2 #[.iface 39 (.pointer (some ⟨C, 0, none⟩))] 24
  cyc : Blk w C #[.slice (some ⟨re, 0, none⟩) k k, .int .i64 rc, .int .i64 rin, .int .i64 ri, .int .i64 0, .int .i64 (mc * k : Nat)] 45
  run : Blk w R #[.slice (some ⟨re, 0, none⟩) k rcap, .int .i64 rc, .int .i64 rin, .int .i64 ri] 29
  rerow : Blk w re recs 24
  vals : Vals w R re k rcap
  ne : A ≠ T ∧ A ≠ R ∧ T ≠ R

section
variable {w w' : World} {A R re k rcap len N E g cap nl T E2 C m mc : Nat} {c i t tc ti tt rc rin ri : Int} {recs : Array Value}

/-- One block turns: all others stand. -/
theorem St.drewN (h : St w A R re k rcap len N E g cap nl T E2 C m mc c i t tc ti tt rc rin ri recs) (n : Nat) : St (w.drewN n) A R re k rcap len N E g cap nl T E2 C m mc c i t tc ti tt rc rin ri recs :=
  ⟨h.arr, h.box, h.parts, h.row, h.tarr, h.tbox, h.cyc, h.run, h.rerow, h.vals.drewN n, h.ne⟩

theorem St.turnC (h : St w A R re k rcap len N E g cap nl T E2 C m mc c i t tc ti tt rc rin ri recs) (ht : Turn (· = C) w w') (mc' : Nat)
    (hb : Blk w' C #[.slice (some ⟨re, 0, none⟩) k k, .int .i64 rc, .int .i64 rin, .int .i64 ri, .int .i64 0, .int .i64 (mc' * k : Nat)] 45) :
    St w' A R re k rcap len N E g cap nl T E2 C m mc' c i t tc ti tt rc rin ri recs := by
  obtain ⟨cur, olds, h1, h2, h3⟩ := h.row
  exact ⟨ht.blk h.arr (h.arr.ne h.cyc (by decide)), ht.blk h.box (h.box.ne h.cyc (by decide)), ht.blk h.parts (h.parts.ne h.cyc (by decide)), ⟨cur, olds, ht.blk h1 (h1.ne h.cyc (by decide)), h2, h3⟩,
    ht.blk h.tarr (h.tarr.ne h.cyc (by decide)), ht.blk h.tbox (h.tbox.ne h.cyc (by decide)), hb, ht.blk h.run (h.run.ne h.cyc (by decide)), ht.blk h.rerow (h.rerow.ne h.cyc (by decide)),
    h.vals.turn ht (h.run.ne h.cyc (by decide)) (h.rerow.ne h.cyc (by decide)), h.ne⟩

theorem St.turnN (h : St w A R re k rcap len N E g cap nl T E2 C m mc c i t tc ti tt rc rin ri recs) (ht : Turn (· = N) w w') (m' : Nat)
    (hb : Blk w' N #[.slice (some ⟨g, 0, none⟩) (nl + 1) cap, .int .i64 (len + (m' * k : Nat))] 36) :
    St w' A R re k rcap len N E g cap nl T E2 C m' mc c i t tc ti tt rc rin ri recs := by
  obtain ⟨cur, olds, h1, h2, h3⟩ := h.row
  exact ⟨ht.blk h.arr (h.arr.ne h.parts (by decide)), ht.blk h.box (h.box.ne h.parts (by decide)), hb, ⟨cur, olds, ht.blk h1 (h1.ne h.parts (by decide)), h2, h3⟩,
    ht.blk h.tarr (h.tarr.ne h.parts (by decide)), ht.blk h.tbox (h.tbox.ne h.parts (by decide)), ht.blk h.cyc (h.cyc.ne h.parts (by decide)), ht.blk h.run (h.run.ne h.parts (by decide)), ht.blk h.rerow (h.rerow.ne h.parts (by decide)),
    h.vals.turn ht (h.run.ne h.parts (by decide)) (h.rerow.ne h.parts (by decide)), h.ne⟩

theorem St.turnT (h : St w A R re k rcap len N E g cap nl T E2 C m mc c i t tc ti tt rc rin ri recs) (ht : Turn (· = T) w w') {tc' ti' tt' : Int}
    (hb : Blk w' T #[.slice (some ⟨E2, 0, none⟩) 1 1, .int .i64 tc', .int .i64 ti', .int .i64 tt'] 29) :
    St w' A R re k rcap len N E g cap nl T E2 C m mc c i t tc' ti' tt' rc rin ri recs := by
  obtain ⟨cur, olds, h1, h2, h3⟩ := h.row
  exact ⟨ht.blk h.arr h.ne.1, ht.blk h.box (h.box.ne h.tarr (by decide)), ht.blk h.parts (h.parts.ne h.tarr (by decide)), ⟨cur, olds, ht.blk h1 (h1.ne h.tarr (by decide)), h2, h3⟩,
    hb, ht.blk h.tbox (h.tbox.ne h.tarr (by decide)), ht.blk h.cyc (h.cyc.ne h.tarr (by decide)), ht.blk h.run h.ne.2.2.symm, ht.blk h.rerow (h.rerow.ne h.tarr (by decide)),
    h.vals.turn ht h.ne.2.2.symm (h.rerow.ne h.tarr (by decide)), h.ne⟩

theorem St.turnA (h : St w A R re k rcap len N E g cap nl T E2 C m mc c i t tc ti tt rc rin ri recs) (ht : Turn (· = A) w w') {c' i' t' : Int}
    (hb : Blk w' A #[.slice (some ⟨E, 0, none⟩) 1 1, .int .i64 c', .int .i64 i', .int .i64 t'] 29) :
    St w' A R re k rcap len N E g cap nl T E2 C m mc c' i' t' tc ti tt rc rin ri recs := by
  obtain ⟨cur, olds, h1, h2, h3⟩ := h.row
  exact ⟨hb, ht.blk h.box (h.box.ne h.arr (by decide)), ht.blk h.parts (h.parts.ne h.arr (by decide)), ⟨cur, olds, ht.blk h1 (h1.ne h.arr (by decide)), h2, h3⟩,
    ht.blk h.tarr h.ne.1.symm, ht.blk h.tbox (h.tbox.ne h.arr (by decide)), ht.blk h.cyc (h.cyc.ne h.arr (by decide)), ht.blk h.run h.ne.2.1.symm, ht.blk h.rerow (h.rerow.ne h.arr (by decide)),
    h.vals.turn ht h.ne.2.1.symm (h.rerow.ne h.arr (by decide)), h.ne⟩
end

/-- What the first addCycle leaves. -/
def After1 (w w' : World) (A R re k rcap len : Nat) (c i t rc rin ri : Int) (recs : Array Value) : Prop :=
  ∃ N E g cap nl T E2 C, nl = nlOf len ∧ (w.heap.size ≤ N ∧ w.heap.size ≤ T ∧ w.heap.size ≤ C) ∧ St w' A R re k rcap len N E g cap nl T E2 C 1 1 (joinC (decide (0 < len)) c rc) (joinI i rin) (wrap64 (t + ri)) rc rin ri rc rin ri recs ∧ Turn (· = A) w w'

set_option maxHeartbeats 400000 in
theorem addCycle_first (A R be re len k rcap : Nat) (c i t rc rin ri : Int) (recs : Array Value) (w : World) (hA : Vals w A be len len) (hl : len ≤ 2000)
    (hbA : Blk w A #[.slice (some ⟨be, 0, none⟩) len len, .int .i64 c, .int .i64 i, .int .i64 t] 29)
    (hR : Vals w R re k rcap) (hbR : Blk w R #[.slice (some ⟨re, 0, none⟩) k rcap, .int .i64 rc, .int .i64 rin, .int .i64 ri] 29)
    (hk : 0 < k) (hk2 : k ≤ 2000) (hcap : k ≤ rcap) (hne : A ≠ R) (hre : Blk w re recs 24) :
    Calls Yba.prog 4 #[.pointer (some ⟨A, 0, none⟩), .pointer (some ⟨R, 0, none⟩)] w fun e w' => e = .returned (.tuple #[]) ∧
      After1 w w' A R re k rcap len c i t rc rin ri recs := by
  have r0 := hbR.cell 0 rfl
  have r1 := hbR.cell 1 rfl
  have r2 := hbR.cell 2 rfl
  have r3 := hbR.cell 3 rfl
  simp only [List.getElem_toArray, List.getElem_cons_zero, List.getElem_cons_succ] at r0 r1 r2 r3
  have l0 := hbR.lt
  have l1 : R < w.heap.size + 1 := by omega
  have l2 : R < w.heap.size + 1 + 1 := by omega
  have l3 := hbA.lt
  have hA3 := ((hA.alloc (.cells #[.slice (some ⟨re, 0, none⟩) k k, .int .i64 rc, .int .i64 rin, .int .i64 ri, .int .i64 0, .int .i64 k] 45)).alloc (.cells #[.iface 39 (.pointer (some ⟨w.heap.size, 0, none⟩))] 24)).alloc (.cells #[.slice (some ⟨w.heap.size + 1, 0, none⟩) 1 1, .int .i64 rc, .int .i64 rin, .int .i64 ri] 29)
  have hR3 := ((hR.alloc (.cells #[.slice (some ⟨re, 0, none⟩) k k, .int .i64 rc, .int .i64 rin, .int .i64 ri, .int .i64 0, .int .i64 k] 45)).alloc (.cells #[.iface 39 (.pointer (some ⟨w.heap.size, 0, none⟩))] 24)).alloc (.cells #[.slice (some ⟨w.heap.size + 1, 0, none⟩) 1 1, .int .i64 rc, .int .i64 rin, .int .i64 ri] 29)
  have bA3 := ((hbA.alloc (.cells #[.slice (some ⟨re, 0, none⟩) k k, .int .i64 rc, .int .i64 rin, .int .i64 ri, .int .i64 0, .int .i64 k] 45)).alloc (.cells #[.iface 39 (.pointer (some ⟨w.heap.size, 0, none⟩))] 24)).alloc (.cells #[.slice (some ⟨w.heap.size + 1, 0, none⟩) 1 1, .int .i64 rc, .int .i64 rin, .int .i64 ri] 29)
  have bR3 := ((hbR.alloc (.cells #[.slice (some ⟨re, 0, none⟩) k k, .int .i64 rc, .int .i64 rin, .int .i64 ri, .int .i64 0, .int .i64 k] 45)).alloc (.cells #[.iface 39 (.pointer (some ⟨w.heap.size, 0, none⟩))] 24)).alloc (.cells #[.slice (some ⟨w.heap.size + 1, 0, none⟩) 1 1, .int .i64 rc, .int .i64 rin, .int .i64 ri] 29)
  have bC3 := ((Blk.new w #[.slice (some ⟨re, 0, none⟩) k k, .int .i64 rc, .int .i64 rin, .int .i64 ri, .int .i64 0, .int .i64 k] 45).alloc (.cells #[.iface 39 (.pointer (some ⟨w.heap.size, 0, none⟩))] 24)).alloc (.cells #[.slice (some ⟨w.heap.size + 1, 0, none⟩) 1 1, .int .i64 rc, .int .i64 rin, .int .i64 ri] 29)
  have bE3 := (Blk.new' (w := w.alloc (.cells #[.slice (some ⟨re, 0, none⟩) k k, .int .i64 rc, .int .i64 rin, .int .i64 ri, .int .i64 0, .int .i64 k] 45)) (N := w.heap.size + 1) (by simp) #[.iface 39 (.pointer (some ⟨w.heap.size, 0, none⟩))] 24).alloc (.cells #[.slice (some ⟨w.heap.size + 1, 0, none⟩) 1 1, .int .i64 rc, .int .i64 rin, .int .i64 ri] 29)
  have bT3 := Blk.new' (w := (w.alloc (.cells #[.slice (some ⟨re, 0, none⟩) k k, .int .i64 rc, .int .i64 rin, .int .i64 ri, .int .i64 0, .int .i64 k] 45)).alloc (.cells #[.iface 39 (.pointer (some ⟨w.heap.size, 0, none⟩))] 24)) (N := w.heap.size + 1 + 1) (by simp) #[.slice (some ⟨w.heap.size + 1, 0, none⟩) 1 1, .int .i64 rc, .int .i64 rin, .int .i64 ri] 29
  have bre3 := ((hre.alloc (.cells #[.slice (some ⟨re, 0, none⟩) k k, .int .i64 rc, .int .i64 rin, .int .i64 ri, .int .i64 0, .int .i64 k] 45)).alloc (.cells #[.iface 39 (.pointer (some ⟨w.heap.size, 0, none⟩))] 24)).alloc (.cells #[.slice (some ⟨w.heap.size + 1, 0, none⟩) 1 1, .int .i64 rc, .int .i64 rin, .int .i64 ri] 29)
  have hne2 : re ≠ A := hre.ne hbA (by decide)
  have t3 := (((Turn.refl (· = A) w).alloc (.cells #[.slice (some ⟨re, 0, none⟩) k k, .int .i64 rc, .int .i64 rin, .int .i64 ri, .int .i64 0, .int .i64 k] 45)).alloc (.cells #[.iface 39 (.pointer (some ⟨w.heap.size, 0, none⟩))] 24)).alloc (.cells #[.slice (some ⟨w.heap.size + 1, 0, none⟩) 1 1, .int .i64 rc, .int .i64 rin, .int .i64 ri] 29)
  go_enter Yba.func4, Yba.ntmps4
  go_wp2_with fail
  refine (tail_vals hA).mono ?_
  rintro e w' ⟨rfl, rfl⟩
  go_wp2_with fail
  refine (len_vals hR).mono ?_
  rintro e w' ⟨rfl, rfl⟩
  go_wp2_with fail
  refine (goingOn_no A be R len len w hA).mono ?_
  rintro e w' ⟨rfl, rfl⟩
  go_wp2_with fail
  go_region
  go_wp2_with fail
  revert hA3 hR3 bA3 bR3 bC3 bE3 bT3 bre3 t3
  generalize ((w.alloc (.cells #[.slice (some ⟨re, 0, none⟩) k k, .int .i64 rc, .int .i64 rin, .int .i64 ri, .int .i64 0, .int .i64 k] 45)).alloc (.cells #[.iface 39 (.pointer (some ⟨w.heap.size, 0, none⟩))] 24)).alloc (.cells #[.slice (some ⟨w.heap.size + 1, 0, none⟩) 1 1, .int .i64 rc, .int .i64 rin, .int .i64 ri] 29) = w3
  intro hA3 hR3 bA3 bR3 bC3 bE3 bT3 bre3 t3
  refine (addRun_any A be len (w.heap.size + 1 + 1) (w.heap.size + 1) w.heap.size k c i t rc rin ri w3.drew (hA3.drewN 1) hl hk2 bA3 bT3 (by omega) (by omega) (by omega) bE3 (bC3.cell 5 rfl)).mono ?_
  rintro e w5 ⟨rfl, N, E, g, cap, nl, HN, hM⟩
  go_wp2_with fail
  refine bodyPost_ret (results_none rfl _ _ _) rfl ?_
  refine ⟨rfl, N, E, g, cap, nl, w.heap.size + 1 + 1, w.heap.size + 1, w.heap.size, HN.out, ⟨?_, by omega, by omega⟩, ⟨hM.arr, hM.box, ?_, hM.row, hM.turn.blk bT3 (by show _ ≠ A; omega), hM.turn.blk bE3 (by show _ ≠ A; omega), ?_, hM.turn.blk bR3 (fun e => hne e.symm), hM.turn.blk bre3 hne2, (hR3.drewN 1).turn hM.turn (fun e => hne e.symm) hne2, ⟨by omega, hne, by omega⟩⟩, t3.drew.trans hM.turn⟩
  · exact Nat.le_trans t3.size hM.ge.1
  · have := hM.parts; rw [Nat.one_mul]; exact this
  · have := hM.turn.blk bC3 (by show _ ≠ A; omega); rw [Nat.one_mul]; exact this

end Go.Proofs.Ybulkauak

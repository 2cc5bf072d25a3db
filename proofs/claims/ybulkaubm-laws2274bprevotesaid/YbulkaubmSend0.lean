import Derived.Test.YbulkaubmRenew
import Derived.Deep.AppendLies
import Derived.Deep.RegionLaw
namespace Go.Proofs.Ybulkaubm
open Go.RowKit Go.ChangeMaps

theorem info59 : ∃ i0, Yba.prog.info? 59 = some i0 ∧ i0.zero = some (.agg #[.int .u64 0, .int .u64 0, .int .i64 0, .pointer none]) ∧ i0.size = 4 ∧ i0.bytes = 32 := by
  have h : (Yba.prog.info? 59).map (fun i => (i.zero, i.size, i.bytes)) = some (some (.agg #[.int .u64 0, .int .u64 0, .int .i64 0, .pointer none]), 4, 32) := by kernel_rfl
  obtain ⟨i0, h1, h2⟩ := Option.map_eq_some_iff.1 h
  simp only [Prod.mk.injEq] at h2
  exact ⟨i0, h1, h2.1, h2.2.1, h2.2.2⟩

theorem app_nil (ty : TypeId) (w : World) : (Builtin.append_ #[53, 53] ty #[.slice none 0 0, .slice none 0 0]).run Yba.prog w = .ok (.slice none 0 0) w := by
  obtain ⟨i0, h1, h2, h3, h4⟩ := info59
  kernel_rfl

theorem set_same {c : Array Value} {i : Nat} {v : Value} (h : c[i]? = some v) : c.setIfInBounds i v = c := by
  apply Array.ext_getElem?
  intro j
  rw [Array.getElem?_setIfInBounds]
  by_cases hj : i = j
  · subst hj
    obtain ⟨p, q⟩ := Array.getElem?_eq_some_iff.1 h
    simp [p, q]
  · simp [hj]

theorem setCell_same {w : World} {b i : Nat} {v : Value} (h : w.cell? ⟨b, i, none⟩ = some v) : w.setCell ⟨b, i, none⟩ v = w := by
  unfold World.setCell
  have e : (w.heap.modify b fun | .cells c elem frozen => .cells (if (⟨b, i, none⟩ : Addr).spot.isSome then c else c.setIfInBounds i v) elem frozen | o => o) = w.heap := by
    apply Array.ext_getElem?
    intro j
    rw [Array.getElem?_modify]
    by_cases hj : b = j
    · subst hj
      unfold World.cell? at h
      simp only at h
      revert h
      cases hb : w.heap[b]? with
      | none => intro h; cases h
      | some o =>
        cases o with
        | cells c t f =>
          intro h
          simp only [Option.isSome_none, Bool.false_eq_true, if_false] at h
          simp [set_same h]
        | _ => intro h; cases h
    · simp [hj]
  exact congrArg (fun h => ({ w with heap := h } : World)) e

theorem app_drop (ty : TypeId) (w : World) (g cap : Nat) (a : Option Addr) (c : Nat) : (Builtin.append_ #[53, 53] ty #[.slice (some ⟨g, 0, none⟩) 0 cap, .slice a 0 c]).run Yba.prog w = .ok (.slice (some ⟨g, 0, none⟩) 0 cap) w := by
  obtain ⟨i0, h1, h2, h3, h4⟩ := info59
  have hfc : (Builtin.firstCells 4 0 (.slice a 0 c)).run Yba.prog w = .ok #[] w := by cases a <;> kernel_rfl
  simp [Builtin.append_, run_underlying Yba.underlying53, sizeOf, typeInfo, h1, h3, Builtin.lenOf, hfc, storeCells]

theorem app_keep (ty : TypeId) (w : World) (g cap : Nat) (v0 v1 v2 v3 : Value) (hc : 1 ≤ cap) (c0 : w.cell? ⟨g, 0, none⟩ = some v0) (c1 : w.cell? ⟨g, 1, none⟩ = some v1) (c2 : w.cell? ⟨g, 2, none⟩ = some v2) (c3 : w.cell? ⟨g, 3, none⟩ = some v3)
    (f0 : w.frozen? ⟨g, 0, none⟩ = false) (f1 : w.frozen? ⟨g, 1, none⟩ = false) (f2 : w.frozen? ⟨g, 2, none⟩ = false) (f3 : w.frozen? ⟨g, 3, none⟩ = false) (ho : v0.oneCell' = true ∧ v1.oneCell' = true ∧ v2.oneCell' = true ∧ v3.oneCell' = true) :
    (Builtin.append_ #[53, 53] ty #[.slice (some ⟨g, 0, none⟩) 0 cap, .slice (some ⟨g, 0, none⟩) 1 cap]).run Yba.prog w = .ok (.slice (some ⟨g, 0, none⟩) 1 cap) w := by
  obtain ⟨i0, h1, h2, h3, h4⟩ := info59
  rw [run_append_room_cells (P := Yba.prog) w 53 ty 59 i0 Yba.underlying53 h1 g 0 0 cap ⟨g, 0, none⟩ 1 cap [v0, v1, v2, v3] (by rw [h3]; rfl) ?_ ?_ (by omega) ?_ ?_]
  · simp [World.setCells, setCell_same, c0, c1, c2, c3]
  · intro j u hu
    match j, hu with
    | 0, hu => simp at hu; subst hu; simpa [Addr.add] using c0
    | 1, hu => simp at hu; subst hu; simpa [Addr.add] using c1
    | 2, hu => simp at hu; subst hu; simpa [Addr.add] using c2
    | 3, hu => simp at hu; subst hu; simpa [Addr.add] using c3
    | j + 4, hu => simp at hu
  · intro u hu
    simp only [List.mem_cons, List.not_mem_nil, or_false] at hu
    obtain ⟨o0, o1, o2, o3⟩ := ho
    rcases hu with rfl | rfl | rfl | rfl <;> assumption
  · intro j hj
    match j, hj with
    | 0, _ => simp [c0]
    | 1, _ => simp [c1]
    | 2, _ => simp [c2]
    | 3, _ => simp [c3]
    | j + 4, hj => simp at hj; omega
  · intro j hj
    match j, hj with
    | 0, _ => simp [f0]
    | 1, _ => simp [f1]
    | 2, _ => simp [f2]
    | 3, _ => simp [f3]
    | j + 4, hj => simp at hj; omega

end Go.Proofs.Ybulkaubm

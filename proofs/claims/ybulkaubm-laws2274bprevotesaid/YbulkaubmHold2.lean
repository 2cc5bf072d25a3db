import Derived.Test.YbulkaubmHold
import Derived.BigRegion
namespace Go.Proofs.Ybulkaubm
open Go.RowKit Go.ChangeMaps

def mone (nm : ByteArray) (v : Value) : Obj := .map #[⟨.string nm, v, 0⟩] 1

theorem heap_alloc' (w : World) (o : Obj) : (w.alloc o).heap = w.heap.push o := rfl
theorem put_alloc (w : World) (o q : Obj) : setBlock (w.alloc o) w.heap.size q = w.alloc q := by
  have e : (w.heap.push o).setIfInBounds w.heap.size q = w.heap.push q := by
    apply Array.ext_getElem?
    intro i
    rw [Array.getElem?_setIfInBounds, Array.getElem?_push, Array.getElem?_push]
    by_cases h : w.heap.size = i
    · simp [h]
    · simp [h, Ne.symm h]
  unfold setBlock
  rw [heap_alloc', e]
  rfl
theorem put_under (w : World) (o q : Obj) {b : Nat} (h : b < w.heap.size) : setBlock (w.alloc o) b q = (setBlock w b q).alloc o := by
  have e : (w.heap.push o).setIfInBounds b q = (w.heap.setIfInBounds b q).push o := by
    apply Array.ext_getElem?
    intro i
    rw [Array.getElem?_setIfInBounds, Array.getElem?_push, Array.getElem?_push, Array.getElem?_setIfInBounds, Array.size_setIfInBounds]
    by_cases hb : b = i
    · subst hb
      have : b < w.heap.size + 1 := by omega
      have h2 : ¬ b = w.heap.size := by omega
      simp [h, this, h2]
    · simp [hb]
  unfold setBlock
  rw [heap_alloc', e]
  rfl

theorem ins0 (w : World) (nm : ByteArray) (v : Value) : (Instr.mapUpdate 41 (.map (some w.heap.size)) (.string nm) v).run Yba.prog (w.alloc (.map #[] 0)).drew = .ok () (w.alloc (mone nm v)).drew := by
  rw [run_first 41 4 _ _ nm v Yba.underlying41 (Holds1.new' rfl _).drew]
  exact congrArg (fun w' : World => Result.ok () w'.drew) (put_alloc w (.map #[] 0) (mone nm v))
theorem ins1 (w : World) (nm : ByteArray) (v : Value) : (Instr.mapUpdate 41 (.map (some w.heap.size)) (.string nm) v).run Yba.prog ((w.alloc (.map #[] 0)).alloc (.map #[] 0)).drew = .ok () ((w.alloc (mone nm v)).alloc (.map #[] 0)).drew := by
  rw [run_first 41 4 _ _ nm v Yba.underlying41 ((Holds1.new' rfl _).alloc _).drew]
  exact congrArg (fun w' : World => Result.ok () w'.drew) ((put_under (w.alloc (.map #[] 0)) (.map #[] 0) (mone nm v) (by simp)).trans (by rw [put_alloc]))
theorem ins2 (w : World) (nm : ByteArray) (v : Value) : (Instr.mapUpdate 41 (.map (some (w.heap.size + 1))) (.string nm) v).run Yba.prog ((w.alloc (.map #[] 0)).alloc (.map #[] 0)).drew = .ok () ((w.alloc (.map #[] 0)).alloc (mone nm v)).drew := by
  rw [run_first 41 4 _ _ nm v Yba.underlying41 (Holds1.new' (by simp) _).drew]
  have := put_alloc (w.alloc (.map #[] 0)) (.map #[] 0) (mone nm v)
  rw [show (w.alloc (.map #[] 0)).heap.size = w.heap.size + 1 by simp] at this
  exact congrArg (fun w' : World => Result.ok () w'.drew) this

/-- A hold of a pre-vote. -/
def HoldP (w w' : World) (N : Nat) (nv : NV) (x s : Int) : Prop :=
  ∃ M R, Blk w' N { nv with votes := .map (some M), refused := .map (some R), ax := x, ay := s, c0 := nv.c0 + 1 }.cells 49 ∧ One w' M nv.id (.bool true) ∧ Turn (· = N) w w'

set_option maxHeartbeats 4000000 in
theorem hold_any (N : Nat) (nv : NV) (x s : Int) (w : World) (hN : Blk w N nv.cells 49) (hc : 0 ≤ nv.c0) (hc1 : nv.c0 ≤ 100) :
    Calls Yba.prog 30 #[.pointer (some ⟨N, 0, none⟩), .agg #[.int .u64 x, .int .i64 s, .pointer none], .agg #[.string ⟨#[]⟩, .int .u64 0, .int .u64 0, .int .i64 0, .pointer none]] w fun e w' => e = .returned (.tuple #[]) ∧ HoldP w w' N nv x s := by
  have lN := hN.lt
  have hN1 := (hN.alloc (.cells #[.int .u64 x, .int .i64 s, .pointer none] 31)).alloc (.cells #[.string ⟨#[]⟩, .int .u64 0, .int .u64 0, .int .i64 0, .pointer none] 43)
  have b0 := (Blk.new w #[.int .u64 x, .int .i64 s, .pointer none] 31).alloc (.cells #[.string ⟨#[]⟩, .int .u64 0, .int .u64 0, .int .i64 0, .pointer none] 43)
  have b1 := Blk.new' (w := w.alloc (.cells #[.int .u64 x, .int .i64 s, .pointer none] 31)) (N := w.heap.size + 1) (by simp) #[.string ⟨#[]⟩, .int .u64 0, .int .u64 0, .int .i64 0, .pointer none] 43
  have t1 := ((Turn.refl (· = N) w).alloc (.cells #[.int .u64 x, .int .i64 s, .pointer none] 31)).alloc (.cells #[.string ⟨#[]⟩, .int .u64 0, .int .u64 0, .int .i64 0, .pointer none] 43)
  have hmm := @run_makeMap Yba.prog
  obtain ⟨nm, hnm⟩ : ∃ nm, nv.id = nm := ⟨_, rfl⟩
  go_enter Yba.func30, Yba.ntmps30
  go_wp2_with fail
  revert hN1 b0 b1 t1
  generalize (w.alloc (.cells #[.int .u64 x, .int .i64 s, .pointer none] 31)).alloc (.cells #[.string ⟨#[]⟩, .int .u64 0, .int .u64 0, .int .i64 0, .pointer none] 43) = w1
  generalize w.heap.size = B
  intro hN1 b0 b1 t1
  have l1 := hN1.lt
  have l2 := b0.lt
  have l3 := b1.lt
  have c0 : w1.cell? ⟨N, 0, none⟩ = some (.string nm) := by rw [← hnm]; exact hN1.cell 0 rfl
  obtain ⟨a0, a1, a2, _, _, _⟩ := b0.cells3
  have d0 : w1.cell? ⟨B + 1, 0, none⟩ = some (.string ⟨#[]⟩) := b1.cell 0 rfl
  have d1 : w1.cell? ⟨B + 1, 1, none⟩ = some (.int .u64 0) := b1.cell 1 rfl
  have d2 : w1.cell? ⟨B + 1, 2, none⟩ = some (.int .u64 0) := b1.cell 2 rfl
  have d3 : w1.cell? ⟨B + 1, 3, none⟩ = some (.int .i64 0) := b1.cell 3 rfl
  have d4 : w1.cell? ⟨B + 1, 4, none⟩ = some (.pointer none) := b1.cell 4 rfl
  have e29 : w1.cell? ⟨N, 29, none⟩ = some nv.votes := hN1.cell 29 rfl
  have e30 : w1.cell? ⟨N, 30, none⟩ = some nv.refused := hN1.cell 30 rfl
  have e31 : w1.cell? ⟨N, 31, none⟩ = some (.string ⟨#[]⟩) := hN1.cell 31 rfl
  have e32 : w1.cell? ⟨N, 32, none⟩ = some (.int .u64 0) := hN1.cell 32 rfl
  have e33 : w1.cell? ⟨N, 33, none⟩ = some (.int .u64 0) := hN1.cell 33 rfl
  have e34 : w1.cell? ⟨N, 34, none⟩ = some (.int .i64 0) := hN1.cell 34 rfl
  have e35 : w1.cell? ⟨N, 35, none⟩ = some (.pointer none) := hN1.cell 35 rfl
  have e36 : w1.cell? ⟨N, 36, none⟩ = some (.int .u64 nv.ax) := hN1.cell 36 rfl
  have e37 : w1.cell? ⟨N, 37, none⟩ = some (.int .i64 nv.ay) := hN1.cell 37 rfl
  have e38 : w1.cell? ⟨N, 38, none⟩ = some (.pointer none) := hN1.cell 38 rfl
  have e39 : w1.cell? ⟨N, 39, none⟩ = some (.bool false) := hN1.cell 39 rfl
  have e41 : w1.cell? ⟨N, 41, none⟩ = some (.int .i64 0) := hN1.cell 41 rfl
  have e49 : w1.cell? ⟨N, 49, none⟩ = some (.int .u64 nv.c0) := hN1.cell 49 rfl
  have f29 := hN1.frozen 29
  have f30 := hN1.frozen 30
  have f31 := hN1.frozen 31
  have f32 := hN1.frozen 32
  have f33 := hN1.frozen 33
  have f34 := hN1.frozen 34
  have f35 := hN1.frozen 35
  have f36 := hN1.frozen 36
  have f37 := hN1.frozen 37
  have f38 := hN1.frozen 38
  have f39 := hN1.frozen 39
  have f41 := hN1.frozen 41
  have f49 := hN1.frozen 49
  have i0 := ins0
  have i1 := ins1
  have i2 := ins2
  go_region
  all_goals go_wp2_with fail
  all_goals go_end0
  · exact ⟨rfl, w1.heap.size, w1.heap.size + 1, ((((((((((((((((hN1.votes _).refused _).k31).k32).k33).k34).k35).ax x).ay s).k38).k39).k41).c0 _)).alloc _).alloc _).drew, by rw [hnm]; exact ((Holds1.new' (by simp) _).alloc _).drew,
      (((((((((((((((t1.setN rfl _ _).setN rfl _ _).setN rfl _ _).setN rfl _ _).setN rfl _ _).setN rfl _ _).setN rfl _ _).setN rfl _ _).setN rfl _ _).setN rfl _ _).setN rfl _ _).setN rfl _ _).setN rfl _ _).alloc _).alloc _).drew⟩
  · exact ⟨rfl, w1.heap.size + 1, w1.heap.size, ((((((((((((((((hN1.votes _).refused _).k31).k32).k33).k34).k35).ax x).ay s).k38).k39).k41).c0 _)).alloc _).alloc _).drew, by rw [hnm]; exact (Holds1.new' (by simp) _).drew,
      (((((((((((((((t1.setN rfl _ _).setN rfl _ _).setN rfl _ _).setN rfl _ _).setN rfl _ _).setN rfl _ _).setN rfl _ _).setN rfl _ _).setN rfl _ _).setN rfl _ _).setN rfl _ _).setN rfl _ _).setN rfl _ _).alloc _).alloc _).drew⟩

end Go.Proofs.Ybulkaubm

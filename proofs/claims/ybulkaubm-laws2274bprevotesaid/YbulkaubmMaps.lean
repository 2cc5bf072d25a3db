import Derived.Test.YbulkaubmNew
import Derived.Maps.RangeRun
import Derived.WideMake
namespace Go.Proofs.Ybulkaubm
open Go.RowKit Go.ChangeMaps
set_option linter.unusedSimpArgs false

/-- Block b holds o. -/
def Holds1 (w : World) (b : Nat) (o : Obj) : Prop := w.heap[b]? = some o

theorem Holds1.lt {w : World} {b : Nat} {o : Obj} (h : Holds1 w b o) : b < w.heap.size := (Array.getElem?_eq_some_iff.1 h).1
theorem Holds1.alloc {w : World} {b : Nat} {o : Obj} (h : Holds1 w b o) (q : Obj) : Holds1 (w.alloc q) b o := by
  have := h.lt
  unfold Holds1 at h ⊢
  rw [Below.heap_alloc _ _ _ this]; exact h
theorem Holds1.new' {w : World} {N : Nat} (h : w.heap.size = N) (o : Obj) : Holds1 (w.alloc o) N o := by
  subst h
  unfold Holds1
  show (w.heap.push _)[w.heap.size]? = _
  simp
theorem Holds1.set_other {w : World} {b : Nat} {o : Obj} (h : Holds1 w b o) {a : Addr} (hne : a.block ≠ b) (v : Value) : Holds1 (w.setCell a v) b o := by
  unfold Holds1 at h ⊢
  rw [Below.heap_setCell _ _ _ _ (fun e => hne e.symm)]; exact h
theorem Holds1.drew {w : World} {b : Nat} {o : Obj} (h : Holds1 w b o) : Holds1 w.drew b o := h
theorem Turn.holds {S : Nat → Prop} {w w' : World} (h : Turn S w w') {b : Nat} {o : Obj} (hb : Holds1 w b o) (hs : ¬ S b) : Holds1 w' b o := by
  have hl := hb.lt
  unfold Holds1 at hb ⊢
  rw [h.block b hl hs]; exact hb
theorem Holds1.put {w : World} {b : Nat} {o : Obj} (h : Holds1 w b o) (q : Obj) : Holds1 (setBlock w b q) b q := by
  have hl := h.lt
  unfold Holds1 setBlock
  simp [hl]
theorem Turn.put {S : Nat → Prop} {a w : World} (h : Turn S a w) {b : Nat} (hp : S b ∨ a.heap.size ≤ b) (q : Obj) : Turn S a (setBlock w b q) :=
  ⟨h.os, h.tape, h.output, by simpa [setBlock] using h.size, fun i hi hs => by
    have hne : b ≠ i := fun e => by rcases hp with hp | hp; exact hs (e ▸ hp); omega
    rw [← h.block i hi hs]
    simp [setBlock, Array.getElem?_setIfInBounds_ne hne]⟩
theorem Holds1.ne {w : World} {b b' : Nat} {o : Obj} {cs : Array Value} {t : TypeId} (h : Holds1 w b o) (h' : Blk w b' cs t) (hne : o ≠ .cells cs t (0, 0)) : b ≠ b' := by
  intro e
  subst e
  unfold Holds1 at h
  unfold Blk at h'
  rw [h] at h'
  exact hne (Option.some.inj h')
theorem Holds1.nem {w : World} {b b' : Nat} {es : Array MapEntry} {c : Nat} {cs : Array Value} {t : TypeId} (h : Holds1 w b (.map es c)) (h' : Blk w b' cs t) : b ≠ b' := h.ne h' (by simp)

/-- A map of the one entry at the name nm. -/
def One (w : World) (b : Nat) (nm : ByteArray) (v : Value) : Prop := Holds1 w b (.map #[⟨.string nm, v, 0⟩] 1)
theorem Turn.one {S : Nat → Prop} {w w' : World} (h : Turn S w w') {b : Nat} {nm : ByteArray} {v : Value} (hb : One w b nm v) (hs : ¬ S b) : One w' b nm v := h.holds hb hs

theorem keyStr (s : ByteArray) : MapKept.IsKey .string (.string s) := by simp [MapKept.IsKey]

theorem same_self (s : ByteArray) : Instr.sameNow .string (.string s) (.string s) = some true := by
  have : (s == s) = true := (MapKept.bytes_beq s s).2 rfl
  simp [Instr.sameNow, this]
theorem find_one (s : ByteArray) (v : Value) (b : Nat) : Instr.findNow .string (.string s) [⟨.string s, v, b⟩] 0 = some (some (0, v)) := by
  simp [Instr.findNow, same_self]

theorem run_first (T E : TypeId) (w : World) (b : Nat) (s : ByteArray) (v : Value) (hT : Yba.prog.underlying T = some (.map 9 E)) (h : Holds1 w b (.map #[] 0)) :
    (Instr.mapUpdate T (.map (some b)) (.string s) v).run Yba.prog w = .ok () (setBlock w b (.map #[⟨.string s, v, 0⟩] 1)) :=
  run_mapUpdate_first w T 9 E b 0 s v hT Yba.underlying9 h

theorem run_again (T E : TypeId) (w : World) (b : Nat) (s : ByteArray) (v v' : Value) (hT : Yba.prog.underlying T = some (.map 9 E)) (h : One w b s v) :
    (Instr.mapUpdate T (.map (some b)) (.string s) v').run Yba.prog w = .ok () (setBlock w b (.map #[⟨.string s, v', 0⟩] 1)) := by
  have hc : (Instr.checkKey false 10000 9 (.string s)).run Yba.prog w = .ok () w := MapKept.run_checkKey (k := .string s) Yba.underlying9 (keyStr s) false 9999
  have hb : (s == s) = true := (MapKept.bytes_beq s s).2 rfl
  simp [Instr.mapUpdate, run_underlying hT, MapKept.run_getObj_map h, hc, MapKept.run_findKey Yba.underlying9 (find_one s v 0), MapKept.run_setObj_map _ h, Result.andThen, setBlock, Instr.keyThatStays, Instr.sameBits, hb]

theorem run_len1 (T E ty : TypeId) (w : World) (b : Nat) (s : ByteArray) (v : Value) (hT : Yba.prog.underlying T = some (.map 9 E)) (h : One w b s v) :
    (Builtin.len_ #[T] ty #[.map (some b)]).run Yba.prog w = .ok (.int .i64 1) w := by
  simp [Builtin.len_, run_underlying hT, MapKept.run_getObj_map h, goInt]

theorem run_look1 (T E : TypeId) (w : World) (b : Nat) (s : ByteArray) (v : Value) (hT : Yba.prog.underlying T = some (.map 9 E)) (h : One w b s v) :
    (Instr.lookup T (.map (some b)) (.string s) false).run Yba.prog w = .ok v w := by
  have hc : (Instr.checkKey false 10000 9 (.string s)).run Yba.prog w = .ok () w := MapKept.run_checkKey (k := .string s) Yba.underlying9 (keyStr s) false 9999
  simp [Instr.lookup, run_underlying hT, MapKept.run_getObj_map h, hc, MapKept.run_findKey Yba.underlying9 (find_one s v 0), Result.andThen]

theorem run_range1 (T E : TypeId) (w : World) (b : Nat) (s : ByteArray) (v : Value) (hT : Yba.prog.underlying T = some (.map 9 E)) (h : One w b s v) :
    (Instr.range T (.map (some b))).run Yba.prog w = .ok (.pointer (some ⟨w.heap.size, 0, none⟩)) (w.alloc (.mapIter (some b) 1 #[] 1)) :=
  run_range_map w T 9 E b _ 1 hT h

theorem run_next1 (ty : TypeId) (w : World) (r b : Nat) (s : ByteArray) (v : Value) (h : One w b s v) (hr : Holds1 w r (.mapIter (some b) 1 #[] 1)) :
    (Instr.next (.pointer (some ⟨r, 0, none⟩)) false ty).run Yba.prog w = .ok (.tuple #[.bool true, .string s, v]) (setBlock w r (.mapIter (some b) 1 #[0] 1)) := by
  unfold One at h
  unfold Holds1 at h hr
  rcases run_next_at (P := Yba.prog) w ty r b 1 1 #[] #[⟨.string s, v, 0⟩] 1 hr h (by simp) (by simp) with ⟨h1, _⟩ | ⟨e, he, w1, hw, hrun⟩
  · simp [leftOf] at h1
  · simp only [Instr.next, getObj, Sem.run_bind, Sem.run, hr, h, Result.andThen]
    simp [choose, Sem.run, Question.forced, Result.andThen, run_setObj_at hr]

theorem run_next2 (ty : TypeId) (w : World) (r b : Nat) (s : ByteArray) (v : Value) (h : One w b s v) (hr : Holds1 w r (.mapIter (some b) 1 #[0] 1)) :
    (Instr.next (.pointer (some ⟨r, 0, none⟩)) false ty).run Yba.prog w = .ok (.tuple #[.bool false]) w := by
  unfold One at h
  unfold Holds1 at h hr
  rcases run_next_at (P := Yba.prog) w ty r b 1 1 #[0] #[⟨.string s, v, 0⟩] 1 hr h (by simp) (by simp) with ⟨_, h2⟩ | ⟨e, he, w1, hw, hrun⟩
  · exact h2
  · simp [leftOf] at he

theorem run_entry1 (w : World) (r b : Nat) (s : ByteArray) (v : Value) (h : One w b s v) (hr : Holds1 w r (.mapIter (some b) 1 #[0] 1)) :
    (Instr.entry (.pointer (some ⟨r, 0, none⟩))).run Yba.prog w = .ok (.tuple #[.string s, v]) w := by
  have := run_entry_at (P := Yba.prog) w r b 1 #[] #[⟨.string s, v, 0⟩] 1 ⟨.string s, v, 0⟩ hr h (by simp) (by simp)
  exact this

/-! The Node's cells, one by one. -/
theorem Blk.role {w : World} {N : Nat} {nv : NV} (h : Blk w N nv.cells 49) (v : Int) : Blk (w.setCell ⟨N, 9, none⟩ (.int .i64 v)) N { nv with role := v }.cells 49 := h.set 9 (.int .i64 v)
theorem Blk.term {w : World} {N : Nat} {nv : NV} (h : Blk w N nv.cells 49) (v : Int) : Blk (w.setCell ⟨N, 10, none⟩ (.int .u64 v)) N { nv with term := v }.cells 49 := h.set 10 (.int .u64 v)
theorem Blk.votedFor {w : World} {N : Nat} {nv : NV} (h : Blk w N nv.cells 49) (v : ByteArray) : Blk (w.setCell ⟨N, 11, none⟩ (.string v)) N { nv with votedFor := v }.cells 49 := h.set 11 (.string v)
theorem Blk.leader {w : World} {N : Nat} {nv : NV} (h : Blk w N nv.cells 49) (v : ByteArray) : Blk (w.setCell ⟨N, 12, none⟩ (.string v)) N { nv with leader := v }.cells 49 := h.set 12 (.string v)
theorem Blk.votes {w : World} {N : Nat} {nv : NV} (h : Blk w N nv.cells 49) (v : Value) : Blk (w.setCell ⟨N, 29, none⟩ v) N { nv with votes := v }.cells 49 := h.set 29 v
theorem Blk.refused {w : World} {N : Nat} {nv : NV} (h : Blk w N nv.cells 49) (v : Value) : Blk (w.setCell ⟨N, 30, none⟩ v) N { nv with refused := v }.cells 49 := h.set 30 v
theorem Blk.won {w : World} {N : Nat} {nv : NV} (h : Blk w N nv.cells 49) (v : Value) : Blk (w.setCell ⟨N, 42, none⟩ v) N { nv with won := v }.cells 49 := h.set 42 v
theorem Blk.ax {w : World} {N : Nat} {nv : NV} (h : Blk w N nv.cells 49) (v : Int) : Blk (w.setCell ⟨N, 36, none⟩ (.int .u64 v)) N { nv with ax := v }.cells 49 := h.set 36 (.int .u64 v)
theorem Blk.ay {w : World} {N : Nat} {nv : NV} (h : Blk w N nv.cells 49) (v : Int) : Blk (w.setCell ⟨N, 37, none⟩ (.int .i64 v)) N { nv with ay := v }.cells 49 := h.set 37 (.int .i64 v)
theorem Blk.dx {w : World} {N : Nat} {nv : NV} (h : Blk w N nv.cells 49) (v : Int) : Blk (w.setCell ⟨N, 43, none⟩ (.int .u64 v)) N { nv with dx := v }.cells 49 := h.set 43 (.int .u64 v)
theorem Blk.ds {w : World} {N : Nat} {nv : NV} (h : Blk w N nv.cells 49) (v : Int) : Blk (w.setCell ⟨N, 44, none⟩ (.int .i64 v)) N { nv with ds := v }.cells 49 := h.set 44 (.int .i64 v)
theorem Blk.c0 {w : World} {N : Nat} {nv : NV} (h : Blk w N nv.cells 49) (v : Int) : Blk (w.setCell ⟨N, 49, none⟩ (.int .u64 v)) N { nv with c0 := v }.cells 49 := h.set 49 (.int .u64 v)
theorem Blk.c1 {w : World} {N : Nat} {nv : NV} (h : Blk w N nv.cells 49) (v : Int) : Blk (w.setCell ⟨N, 50, none⟩ (.int .u64 v)) N { nv with c1 := v }.cells 49 := h.set 50 (.int .u64 v)
theorem Blk.beat0 {w : World} {N : Nat} {nv : NV} (h : Blk w N nv.cells 49) : Blk (w.setCell ⟨N, 13, none⟩ (.int .u64 0)) N nv.cells 49 := h.set 13 (.int .u64 0)
theorem Blk.k31 {w : World} {N : Nat} {nv : NV} (h : Blk w N nv.cells 49) : Blk (w.setCell ⟨N, 31, none⟩ (.string ⟨#[]⟩)) N nv.cells 49 := h.set 31 (.string ⟨#[]⟩)
theorem Blk.k32 {w : World} {N : Nat} {nv : NV} (h : Blk w N nv.cells 49) : Blk (w.setCell ⟨N, 32, none⟩ (.int .u64 0)) N nv.cells 49 := h.set 32 (.int .u64 0)
theorem Blk.k33 {w : World} {N : Nat} {nv : NV} (h : Blk w N nv.cells 49) : Blk (w.setCell ⟨N, 33, none⟩ (.int .u64 0)) N nv.cells 49 := h.set 33 (.int .u64 0)
theorem Blk.k34 {w : World} {N : Nat} {nv : NV} (h : Blk w N nv.cells 49) : Blk (w.setCell ⟨N, 34, none⟩ (.int .i64 0)) N nv.cells 49 := h.set 34 (.int .i64 0)
theorem Blk.k35 {w : World} {N : Nat} {nv : NV} (h : Blk w N nv.cells 49) : Blk (w.setCell ⟨N, 35, none⟩ (.pointer none)) N nv.cells 49 := h.set 35 (.pointer none)
theorem Blk.k38 {w : World} {N : Nat} {nv : NV} (h : Blk w N nv.cells 49) : Blk (w.setCell ⟨N, 38, none⟩ (.pointer none)) N nv.cells 49 := h.set 38 (.pointer none)
theorem Blk.k39 {w : World} {N : Nat} {nv : NV} (h : Blk w N nv.cells 49) : Blk (w.setCell ⟨N, 39, none⟩ (.bool false)) N nv.cells 49 := h.set 39 (.bool false)
theorem Blk.k40 {w : World} {N : Nat} {nv : NV} (h : Blk w N nv.cells 49) : Blk (w.setCell ⟨N, 40, none⟩ (.int .i64 0)) N nv.cells 49 := h.set 40 (.int .i64 0)
theorem Blk.k41 {w : World} {N : Nat} {nv : NV} (h : Blk w N nv.cells 49) : Blk (w.setCell ⟨N, 41, none⟩ (.int .i64 0)) N nv.cells 49 := h.set 41 (.int .i64 0)
theorem Blk.k45 {w : World} {N : Nat} {nv : NV} (h : Blk w N nv.cells 49) : Blk (w.setCell ⟨N, 45, none⟩ (.pointer none)) N nv.cells 49 := h.set 45 (.pointer none)
theorem Turn.setN {S : Nat → Prop} {a w : World} {N : Nat} (h : Turn S a w) (hN : S N) (i : Nat) (v : Value) : Turn S a (w.setCell ⟨N, i, none⟩ v) := h.set (p := ⟨N, i, none⟩) (Or.inl hN) v

end Go.Proofs.Ybulkaubm

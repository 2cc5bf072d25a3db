import Derived.WalkKit
import Derived.WalkSpells
import Derived.Deep.QuietTactic
namespace Go.Proofs.Ybulkaubm
open Go.RowKit

/-- Block b is a row of cells, none of them frozen. -/
def Blk (w : World) (b : Nat) (cs : Array Value) (t : TypeId) : Prop := w.heap[b]? = some (.cells cs t (0, 0))

theorem Blk.lt {w : World} {b : Nat} {cs : Array Value} {t : TypeId} (h : Blk w b cs t) : b < w.heap.size := by
  unfold Blk at h
  exact (Array.getElem?_eq_some_iff.1 h).1

theorem Blk.cell {w : World} {b : Nat} {cs : Array Value} {t : TypeId} (h : Blk w b cs t) (i : Nat) {v : Value} (hv : cs[i]? = some v) : w.cell? ⟨b, i, none⟩ = some v := by
  unfold Blk at h
  simp [World.cell?, h, hv]

theorem Blk.frozen {w : World} {b : Nat} {cs : Array Value} {t : TypeId} (h : Blk w b cs t) (i : Nat) : w.frozen? ⟨b, i, none⟩ = false := by
  unfold Blk at h
  simp [World.frozen?, h]

theorem Blk.set {w : World} {b : Nat} {cs : Array Value} {t : TypeId} (h : Blk w b cs t) (i : Nat) (v : Value) : Blk (w.setCell ⟨b, i, none⟩ v) b (cs.setIfInBounds i v) t := by
  unfold Blk at h ⊢
  simp [World.setCell, Array.getElem?_modify, h]

theorem Blk.set_other {w : World} {b : Nat} {cs : Array Value} {t : TypeId} (h : Blk w b cs t) {a : Addr} (hne : a.block ≠ b) (v : Value) : Blk (w.setCell a v) b cs t := by
  unfold Blk at h ⊢
  rw [Below.heap_setCell _ _ _ _ (fun e => hne e.symm)]; exact h

theorem Blk.alloc {w : World} {b : Nat} {cs : Array Value} {t : TypeId} (h : Blk w b cs t) (o : Obj) : Blk (w.alloc o) b cs t := by
  have := h.lt
  unfold Blk at h ⊢
  rw [Below.heap_alloc _ _ _ this]; exact h

theorem Blk.new (w : World) (cs : Array Value) (t : TypeId) : Blk (w.alloc (.cells cs t)) w.heap.size cs t := by
  unfold Blk
  show (w.heap.push _)[w.heap.size]? = _
  simp

theorem Blk.drew {w : World} {b : Nat} {cs : Array Value} {t : TypeId} (h : Blk w b cs t) : Blk w.drew b cs t := h

theorem heap_drewN (w : World) (n : Nat) : (w.drewN n).heap = w.heap := by simp

theorem Blk.drewN {w : World} {b : Nat} {cs : Array Value} {t : TypeId} (h : Blk w b cs t) (n : Nat) : Blk (w.drewN n) b cs t := by
  unfold Blk at h ⊢; rw [heap_drewN]; exact h

/-- Of what was there only the blocks of S have turned. -/
structure Turn (S : Nat → Prop) (w w' : World) : Prop where
  os : w'.os = w.os
  tape : w'.tape = w.tape
  output : w'.output = w.output
  size : w.heap.size ≤ w'.heap.size
  block : ∀ b, b < w.heap.size → ¬ S b → w'.heap[b]? = w.heap[b]?

theorem Turn.refl (S : Nat → Prop) (w : World) : Turn S w w := ⟨rfl, rfl, rfl, Nat.le_refl _, fun _ _ _ => rfl⟩
theorem Turn.trans {S : Nat → Prop} {a b c : World} (h : Turn S a b) (k : Turn S b c) : Turn S a c :=
  ⟨k.os.trans h.os, k.tape.trans h.tape, k.output.trans h.output, Nat.le_trans h.size k.size,
    fun i hi hs => (k.block i (Nat.lt_of_lt_of_le hi h.size) hs).trans (h.block i hi hs)⟩
theorem Turn.weak {S S' : Nat → Prop} {a b : World} (h : Turn S a b) (hs : ∀ i, S i → S' i) : Turn S' a b :=
  ⟨h.os, h.tape, h.output, h.size, fun i hi hn => h.block i hi (fun e => hn (hs i e))⟩
/-- Two steps; what the second turns is new to the first's start, or turned already. -/
theorem Turn.then {S S' : Nat → Prop} {a b c : World} (h : Turn S a b) (k : Turn S' b c) (hs : ∀ i, S' i → S i ∨ a.heap.size ≤ i) : Turn S a c :=
  ⟨k.os.trans h.os, k.tape.trans h.tape, k.output.trans h.output, Nat.le_trans h.size k.size,
    fun i hi hn => (k.block i (Nat.lt_of_lt_of_le hi h.size) (fun e => by rcases hs i e with e | e; exact hn e; omega)).trans (h.block i hi hn)⟩
theorem Turn.drew {S : Nat → Prop} {a w : World} (h : Turn S a w) : Turn S a w.drew := ⟨h.os, h.tape, h.output, h.size, h.block⟩
theorem Turn.drewN {S : Nat → Prop} {a w : World} (h : Turn S a w) (n : Nat) : Turn S a (w.drewN n) :=
  ⟨h.os, h.tape, h.output, h.size, h.block⟩
theorem Turn.alloc {S : Nat → Prop} {a w : World} (h : Turn S a w) (o : Obj) : Turn S a (w.alloc o) :=
  ⟨h.os, h.tape, h.output, by simp; have := h.size; omega, fun b hb hs => by rw [Below.heap_alloc _ _ _ (Nat.lt_of_lt_of_le hb h.size)]; exact h.block b hb hs⟩
theorem Turn.set {S : Nat → Prop} {a w : World} (h : Turn S a w) {p : Addr} (hp : S p.block ∨ a.heap.size ≤ p.block) (u : Value) : Turn S a (w.setCell p u) :=
  ⟨h.os, h.tape, h.output, by simpa using h.size, fun b hb hs => by
    rw [Below.heap_setCell _ _ _ _ (fun e => by rcases hp with hp | hp; exact hs (e ▸ hp); omega)]; exact h.block b hb hs⟩
theorem Turn.below {S : Nat → Prop} {w w' : World} (h : Turn S w w') (B : Nat) (hB : B ≤ w.heap.size) (hs : ∀ i, S i → B ≤ i) : Below B w w' :=
  ⟨h.os, h.tape, h.output, h.size, fun b hb => h.block b (by omega) (fun e => by have := hs b e; omega)⟩
theorem Turn.blk {S : Nat → Prop} {w w' : World} (h : Turn S w w') {b : Nat} {cs : Array Value} {t : TypeId} (hb : Blk w b cs t) (hs : ¬ S b) : Blk w' b cs t := by
  have hl := hb.lt
  unfold Blk at hb ⊢
  rw [h.block b hl hs]; exact hb
theorem Turn.cell {S : Nat → Prop} {w w' : World} (h : Turn S w w') {p : Addr} (hp : p.block < w.heap.size) (hs : ¬ S p.block) : w'.cell? p = w.cell? p := World.cell?_of_block (w := w) (h.block p.block hp hs)

theorem Blk.new' {w : World} {N : Nat} (h : w.heap.size = N) (cs : Array Value) (t : TypeId) : Blk (w.alloc (.cells cs t)) N cs t := by
  subst h; exact Blk.new w cs t

theorem Blk.ne {w : World} {b b' : Nat} {cs cs' : Array Value} {t t' : TypeId} (h : Blk w b cs t) (h' : Blk w b' cs' t') (hne : t ≠ t') : b ≠ b' := by
  intro e
  subst e
  unfold Blk at h h'
  rw [h] at h'
  simp at h'
  exact hne h'.2

theorem quiet_same {P : Program} {f : FuncId} {args : Array Value} {w : World} {n : Nat} {v : Value}
    (h : Calls P f args (w.drewN n) fun e w' => e = .returned v ∧ w.drewN n = w') : Calls P f args (w.drewN n) fun e w'' => e = .returned v ∧ ∃ m, w'' = w.drewN m :=
  h.mono fun _ _ ⟨he, hm⟩ => ⟨he, n, hm.symm⟩

theorem quiet_draw {P : Program} {f : FuncId} {args : Array Value} {w : World} {n : Nat} {v : Value}
    (h : Calls P f args (w.drewN n) fun e w' => e = .returned v ∧ ∃ m, w' = (w.drewN n).drewN m) : Calls P f args (w.drewN n) fun e w'' => e = .returned v ∧ ∃ m, w'' = w.drewN m :=
  h.mono fun _ _ ⟨he, m, hm⟩ => ⟨he, n + m, by rw [hm, World.drewN_drewN]⟩

end Go.Proofs.Ybulkaubm

import Derived.Test.YbulkaubmHold2
namespace Go.Proofs.Ybulkaubm
open Go.RowKit Go.ChangeMaps

/-- What of a leadership turns on these roads. -/
structure LV where
  beats : Value
  count : Int
  acked : Value
  nx : Int
  ns : Int
  ex : Int
  en : Int
  rx : Int
  rs : Int

/-- The leadership's 17 cells. -/
def LV.cells (l : LV) : Array Value :=
  #[l.beats, .int .u64 l.count, l.acked, .int .u64 l.nx, .int .i64 l.ns, .pointer none, .int .u64 l.ex, .int .i64 l.en, .pointer none, .int .u64 l.rx, .int .i64 l.rs, .pointer none, .string ⟨#[]⟩, .int .u64 0, .int .i64 0, .pointer none, .bool false]

theorem Blk.beats {w : World} {N : Nat} {lv : LV} (h : Blk w N lv.cells 56) (v : Value) : Blk (w.setCell ⟨N, 0, none⟩ v) N { lv with beats := v }.cells 56 := h.set 0 v
theorem Blk.count {w : World} {N : Nat} {lv : LV} (h : Blk w N lv.cells 56) (v : Int) : Blk (w.setCell ⟨N, 1, none⟩ (.int .u64 v)) N { lv with count := v }.cells 56 := h.set 1 (.int .u64 v)
theorem Blk.next3 {w : World} {N : Nat} {lv : LV} (h : Blk w N lv.cells 56) (x s : Int) : Blk (((w.setCell ⟨N, 3, none⟩ (.int .u64 x)).setCell ⟨N, 4, none⟩ (.int .i64 s)).setCell ⟨N, 5, none⟩ (.pointer none)) N { lv with nx := x, ns := s }.cells 56 := ((h.set 3 (.int .u64 x)).set 4 (.int .i64 s)).set 5 (.pointer none)
theorem Blk.ends3 {w : World} {N : Nat} {lv : LV} (h : Blk w N lv.cells 56) (x s : Int) : Blk (((w.setCell ⟨N, 6, none⟩ (.int .u64 x)).setCell ⟨N, 7, none⟩ (.int .i64 s)).setCell ⟨N, 8, none⟩ (.pointer none)) N { lv with ex := x, en := s }.cells 56 := ((h.set 6 (.int .u64 x)).set 7 (.int .i64 s)).set 8 (.pointer none)
theorem Blk.renewed3 {w : World} {N : Nat} {lv : LV} (h : Blk w N lv.cells 56) (x s : Int) : Blk (((w.setCell ⟨N, 9, none⟩ (.int .u64 x)).setCell ⟨N, 10, none⟩ (.int .i64 s)).setCell ⟨N, 11, none⟩ (.pointer none)) N { lv with rx := x, rs := s }.cells 56 := ((h.set 9 (.int .u64 x)).set 10 (.int .i64 s)).set 11 (.pointer none)
theorem Blk.dead3 {w : World} {N : Nat} {nv : NV} (h : Blk w N nv.cells 49) (x s : Int) : Blk (((w.setCell ⟨N, 43, none⟩ (.int .u64 x)).setCell ⟨N, 44, none⟩ (.int .i64 s)).setCell ⟨N, 45, none⟩ (.pointer none)) N { nv with dx := x, ds := s }.cells 49 := ((h.set 43 (.int .u64 x)).set 44 (.int .i64 s)).set 45 (.pointer none)
theorem Turn.set3 {S : Nat → Prop} {a w : World} {N : Nat} (h : Turn S a w) (hN : S N ∨ a.heap.size ≤ N) (i j k : Nat) (u v x : Value) : Turn S a (((w.setCell ⟨N, i, none⟩ u).setCell ⟨N, j, none⟩ v).setCell ⟨N, k, none⟩ x) :=
  ((h.set (p := ⟨N, i, none⟩) hN u).set (p := ⟨N, j, none⟩) hN v).set (p := ⟨N, k, none⟩) hN x

set_option maxHeartbeats 400000 in
theorem handing_false (L : Nat) (lv : LV) (w : World) (hL : Blk w L lv.cells 56) :
    Calls Yba.prog 23 #[.pointer (some ⟨L, 0, none⟩)] w fun e w' => e = .returned (.bool false) ∧ Turn (fun _ => False) w w' := by
  have c0 : w.cell? ⟨L, 13, none⟩ = some (.int .u64 0) := hL.cell 13 rfl
  have c1 : w.cell? ⟨L, 14, none⟩ = some (.int .i64 0) := hL.cell 14 rfl
  have c2 : w.cell? ⟨L, 15, none⟩ = some (.pointer none) := hL.cell 15 rfl
  go_enter Yba.func23, Yba.ntmps23
  go_wp2_with fail
  refine (isZero_any 0 0 0 true _ ⟨rfl, rfl, by omega⟩ (by simp)).mono ?_
  rintro e w' ⟨rfl, ht⟩
  go_wp2_with fail
  go_ret
  exact ⟨rfl, ht⟩

set_option maxHeartbeats 400000 in
theorem outbox_any (N G np : Nat) (nv : NV) (w : World) (hN : Blk w N nv.cells 49) (hm : nv.msgs = .slice (some ⟨G, 0, none⟩) 0 np) :
    Calls Yba.prog 40 #[.pointer (some ⟨N, 0, none⟩)] w fun e w' => e = .returned (.slice (some ⟨G, 0, none⟩) 0 np) ∧ w = w' := by
  have c0 : w.cell? ⟨N, 47, none⟩ = some (.slice (some ⟨G, 0, none⟩) 0 np) := by rw [← hm]; exact hN.cell 47 rfl
  go_enter Yba.func40, Yba.ntmps40
  go_wp2
  go_ret
  exact ⟨by simp, rfl⟩

set_option maxHeartbeats 400000 in
theorem broadcast0 (N G : Nat) (nv : NV) (k t b : Int) (ao : Option Addr) (pc : Nat) (w : World) (hN : Blk w N nv.cells 49) (hm : nv.msgs = .slice (some ⟨G, 0, none⟩) 0 0) (hp : nv.peers = .slice ao 0 pc) :
    Calls Yba.prog 32 #[.pointer (some ⟨N, 0, none⟩), .int .u8 k, .int .u64 t, .int .u64 b] w fun e w' => e = .returned (.slice (some ⟨G, 0, none⟩) 0 0) ∧ w = w' := by
  have c1 : w.cell? ⟨N, 1, none⟩ = some (.slice ao 0 pc) := by rw [← hp]; exact hN.cell 1 rfl
  go_enter Yba.func32, Yba.ntmps32
  go_wp2_with fail
  refine (outbox_any N G 0 nv w hN hm).mono ?_
  rintro e w' ⟨rfl, rfl⟩
  go_wp2_with fail
  refine wp_loop_rounds 1 ?_
  rw [rounds_succ]
  go_wp2
  go_ret
  exact ⟨rfl, rfl⟩

set_option maxHeartbeats 400000 in
theorem heartbeats0 (N G : Nat) (nv : NV) (b : Int) (ao : Option Addr) (pc : Nat) (w : World) (hN : Blk w N nv.cells 49) (hm : nv.msgs = .slice (some ⟨G, 0, none⟩) 0 0) (hp : nv.peers = .slice ao 0 pc) :
    Calls Yba.prog 35 #[.pointer (some ⟨N, 0, none⟩), .int .u64 b] w fun e w' => e = .returned (.slice (some ⟨G, 0, none⟩) 0 0) ∧ w = w' := by
  have c1 : w.cell? ⟨N, 10, none⟩ = some (.int .u64 nv.term) := hN.cell 10 rfl
  go_enter Yba.func35, Yba.ntmps35
  go_wp2_with fail
  refine (broadcast0 N G nv 3 nv.term b ao pc w hN hm hp).mono ?_
  rintro e w' ⟨rfl, rfl⟩
  go_wp2_with fail
  refine wp_loop_rounds 1 ?_
  rw [rounds_succ]
  go_wp2
  go_ret
  exact ⟨rfl, rfl⟩

end Go.Proofs.Ybulkaubm

import Derived.Test.YbulkaubmTime2
import Derived.Deep.RegionWith
namespace Go.Proofs.Ybulkaubm
open Go.RowKit

/-- Facts of a block, as the walk wants them. -/
theorem Blk.cells3 {w : World} {b : Nat} {t : TypeId} {a c d : Value} (h : Blk w b #[a, c, d] t) :
    w.cell? ⟨b, 0, none⟩ = some a ∧ w.cell? ⟨b, 1, none⟩ = some c ∧ w.cell? ⟨b, 2, none⟩ = some d ∧ w.frozen? ⟨b, 0, none⟩ = false ∧ w.frozen? ⟨b, 1, none⟩ = false ∧ w.frozen? ⟨b, 2, none⟩ = false :=
  ⟨h.cell 0 rfl, h.cell 1 rfl, h.cell 2 rfl, h.frozen 0, h.frozen 1, h.frozen 2⟩

set_option maxHeartbeats 400000 in
theorem earlier_first (x s y t : Int) (n m : Nat) (w : World) (h : IsTm x s n) (k : IsTm y t m) (hnm : n ≤ m) :
    Calls Yba.prog 42 #[.agg #[.int .u64 x, .int .i64 s, .pointer none], .agg #[.int .u64 y, .int .i64 t, .pointer none]] w fun e w' => e = .returned (.agg #[.int .u64 x, .int .i64 s, .pointer none]) ∧ Turn (fun _ => False) w w' := by
  have hd : decide (m < n) = false := by simp; omega
  have HD : Hid (decide (m < n) = false) := hd
  clear hd hnm
  go_enter Yba.func42, Yba.ntmps42
  go_wp2_with fail
  refine (before_any y t x s m n false _ k h HD.out).mono ?_
  rintro e w1 ⟨rfl, ht⟩
  have b0 := ht.blk (((Blk.new w #[.int .u64 x, .int .i64 s, .pointer none] 31).alloc (.cells #[.int .u64 y, .int .i64 t, .pointer none] 31)).alloc (.cells #[.int .u64 0, .int .i64 0, .pointer none] 31)) id
  have b2 := ht.blk (Blk.new' (w := (w.alloc (.cells #[.int .u64 x, .int .i64 s, .pointer none] 31)).alloc (.cells #[.int .u64 y, .int .i64 t, .pointer none] 31)) (N := w.heap.size + 1 + 1) (by simp) #[.int .u64 0, .int .i64 0, .pointer none] 31) id
  have HT : Turn (fun _ => False) w w1 := (((Turn.refl _ w).alloc _).alloc _).alloc _ |>.trans ht
  obtain ⟨c0, c1, c2, f0, f1, f2⟩ := b0.cells3
  obtain ⟨d0, d1, d2, g0, g1, g2⟩ := b2.cells3
  have l2 := b2.lt
  clear ht b0
  go_wp2_with fail
  have b3 := ((b2.set 0 (.int .u64 x)).set 1 (.int .i64 s)).set 2 (.pointer none)
  have HT3 := ((HT.set (p := ⟨w.heap.size + 1 + 1, 0, none⟩) (Or.inr (by show w.heap.size ≤ w.heap.size + 1 + 1; omega)) (.int .u64 x)).set (p := ⟨w.heap.size + 1 + 1, 1, none⟩) (Or.inr (by show w.heap.size ≤ w.heap.size + 1 + 1; omega)) (.int .i64 s)).set (p := ⟨w.heap.size + 1 + 1, 2, none⟩) (Or.inr (by show w.heap.size ≤ w.heap.size + 1 + 1; omega)) (.pointer none)
  clear c0 c1 c2 f0 f1 f2 d0 d1 d2 g0 g1 g2 l2 b2 HT
  revert b3 HT3
  generalize ((w1.setCell ⟨w.heap.size + 1 + 1, 0, none⟩ (.int .u64 x)).setCell ⟨w.heap.size + 1 + 1, 1, none⟩ (.int .i64 s)).setCell ⟨w.heap.size + 1 + 1, 2, none⟩ (.pointer none) = w3
  intro b3 HT3
  obtain ⟨d0, d1, d2, _, _, _⟩ := Blk.cells3 b3
  exact bodyPost_ret (v := .agg #[.int .u64 x, .int .i64 s, .pointer none]) (by simp [results, Yba.results42, go_sem, d0, d1, d2]) rfl ⟨rfl, HT3⟩

theorem add_zero (x s : Int) (n : Nat) (w : World) (h : IsTm x s n) :
    Calls Yba.prog 9 #[.agg #[.int .u64 x, .int .i64 s, .pointer none], .int .i64 0] w fun e w' => e = .returned (.agg #[.int .u64 x, .int .i64 s, .pointer none]) ∧ Turn (fun _ => False) w w' := by
  obtain ⟨h1, h2, h3⟩ := h
  refine (add_core x s 0 w (by omega) (by omega) (by omega) (by omega) (by omega) (by omega)).mono fun e w' ⟨he, ht⟩ => ⟨?_, ht⟩
  rw [he]
  exact ret_eq (tmv_eq (by omega) (by omega))

set_option maxHeartbeats 1000000 in
theorem sub_same (x s : Int) (n : Nat) (w : World) (h : IsTm x s n) :
    Calls Yba.prog 39 #[.agg #[.int .u64 x, .int .i64 s, .pointer none], .agg #[.int .u64 x, .int .i64 s, .pointer none]] w fun e w' => e = .returned (.int .i64 0) ∧ Turn (fun _ => False) w w' := by
  have h0 : 0 ≤ x := by obtain ⟨a, b, c⟩ := h; omega
  have h1 : x < 1000000000 := by obtain ⟨a, b, c⟩ := h; omega
  have s0 : 0 ≤ s := by obtain ⟨a, b, c⟩ := h; omega
  have s1 : s < 1000000000000 := by obtain ⟨a, b, c⟩ := h; omega
  have hm := and2 x x h0 h1 h0 h1
  have b0 := (Blk.new w #[.int .u64 x, .int .i64 s, .pointer none] 31).alloc (.cells #[.int .u64 x, .int .i64 s, .pointer none] 31)
  have b1 := Blk.new' (w := w.alloc (.cells #[.int .u64 x, .int .i64 s, .pointer none] 31)) (N := w.heap.size + 1) (by simp) #[.int .u64 x, .int .i64 s, .pointer none] 31
  have HT : Turn (fun _ => False) w ((w.alloc (.cells #[.int .u64 x, .int .i64 s, .pointer none] 31)).alloc (.cells #[.int .u64 x, .int .i64 s, .pointer none] 31)) := ((Turn.refl _ w).alloc _).alloc _
  go_enter Yba.func39, Yba.ntmps39
  go_wp2_with fail
  refine (sec_any w.heap.size x s _ h0 h1 (by simp) (by simp)).mono ?_
  rintro e w' ⟨rfl, rfl⟩
  go_wp2_with fail
  refine (sec_any (w.heap.size + 1) x s _ h0 h1 (by simp) (by simp)).mono ?_
  rintro e w' ⟨rfl, rfl⟩
  go_wp2_with fail
  refine (nsec_any w.heap.size x _ h0 h1 (by simp)).mono ?_
  rintro e w' ⟨rfl, rfl⟩
  go_wp2_with fail
  refine (nsec_any (w.heap.size + 1) x _ h0 h1 (by simp)).mono ?_
  rintro e w' ⟨rfl, rfl⟩
  go_wp2_with fail
  revert b0 b1 HT
  generalize (w.alloc (.cells #[.int .u64 x, .int .i64 s, .pointer none] 31)).alloc (.cells #[.int .u64 x, .int .i64 s, .pointer none] 31) = w1
  intro b0 b1 HT
  obtain ⟨c0, c1, c2, _, _, _⟩ := b0.cells3
  obtain ⟨d0, d1, d2, _, _, _⟩ := b1.cells3
  go_region_with (first
    | (go_at_call 9; refine (add_zero x s n _ h).mono ?_; rintro e w2 ⟨rfl, ht⟩; have HT2 := (HT.drew).trans ht; obtain ⟨c0', c1', c2', _, _, _⟩ := (ht.blk b0.drew id).cells3)
    | (go_at_call 11; refine (equal_any x s x s n n true _ h h (by simp)).mono ?_; rintro e w3 ⟨rfl, ht3⟩))
  all_goals go_wp2_with fail
  all_goals go_ret
  all_goals exact ⟨rfl, HT2.trans ht3⟩

end Go.Proofs.Ybulkaubm

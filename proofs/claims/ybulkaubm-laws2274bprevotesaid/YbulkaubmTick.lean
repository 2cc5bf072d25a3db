import Derived.Test.YbulkaubmPre
namespace Go.Proofs.Ybulkaubm
open Go.RowKit Go.ChangeMaps

set_option maxHeartbeats 1000000 in
/-- tick behind the deadline, of a member that has not won: preCampaign. -/
theorem tick_pre (N : Nat) (nv : NV) (x s : Int) (t d : Nat) (w : World) (hN : Blk w N nv.cells 49) (ht : IsTm x s t) (hd : IsTm nv.dx nv.ds d) (hge : d ≤ t) (hw : nv.won = .pointer none) (ra : Option Addr) (rn rc : Nat) (Q : World → Prop)
    (HQ : ∀ w1, Turn (fun _ => False) w w1 → Calls Yba.prog 22 #[.pointer (some ⟨N, 0, none⟩), .agg #[.int .u64 x, .int .i64 s, .pointer none]] w1 fun e w' => e = .returned (.slice ra rn rc) ∧ Q w') :
    Calls Yba.prog 12 #[.pointer (some ⟨N, 0, none⟩), .agg #[.int .u64 x, .int .i64 s, .pointer none]] w fun e w' => e = .returned (.slice ra rn rc) ∧ Q w' := by
  have lN := hN.lt
  have b0 := Blk.new w #[.int .u64 x, .int .i64 s, .pointer none] 31
  have hN1 := hN.alloc (.cells #[.int .u64 x, .int .i64 s, .pointer none] 31)
  have t1 := (Turn.refl (fun _ => False) w).alloc (.cells #[.int .u64 x, .int .i64 s, .pointer none] 31)
  obtain ⟨dx, hdx⟩ : ∃ dx, nv.dx = dx := ⟨_, rfl⟩
  obtain ⟨ds, hds⟩ : ∃ ds, nv.ds = ds := ⟨_, rfl⟩
  rw [hdx, hds] at hd
  have HDD : Hid (nv.dx = dx ∧ nv.ds = ds) := ⟨hdx, hds⟩
  have HB : Hid (decide (t < d) = false) := decide_eq_false (by omega)
  clear hdx hds hge
  go_enter Yba.func12, Yba.ntmps12
  go_wp2_with fail
  revert b0 hN1 t1
  generalize w.alloc (.cells #[.int .u64 x, .int .i64 s, .pointer none] 31) = w1
  generalize w.heap.size = B
  intro b0 hN1 t1
  obtain ⟨a0, a1, a2, _, _, _⟩ := b0.cells3
  have n0 : w1.cell? ⟨N, 43, none⟩ = some (.int .u64 dx) := by rw [← HDD.out.1]; exact hN1.cell 43 rfl
  have n1 : w1.cell? ⟨N, 44, none⟩ = some (.int .i64 ds) := by rw [← HDD.out.2]; exact hN1.cell 44 rfl
  have n2 : w1.cell? ⟨N, 45, none⟩ = some (.pointer none) := hN1.cell 45 rfl
  go_region_with (go_at_call 21; refine (before_any x s dx ds t d false _ ht hd HB.out).mono ?_; rintro e w2 ⟨rfl, ht2⟩)
  all_goals
    have N2 := ht2.blk hN1.drew id
    have b2 := ht2.blk b0.drew id
    clear a0 a1 a2 n0 n1 n2
    obtain ⟨a0, a1, a2, _, _, _⟩ := b2.cells3
    have c42 : w2.cell? ⟨N, 42, none⟩ = some (.pointer none) := by rw [← hw]; exact N2.cell 42 rfl
    go_wp2_with fail
    refine (HQ w2 (t1.drew.trans ht2)).mono ?_
    rintro e w3 ⟨rfl, hq⟩
    go_wp2_with fail
    go_ret
    exact ⟨rfl, hq⟩

set_option maxHeartbeats 1000000 in
/-- tick behind the deadline, of a member that has won and hands nothing over: sendHeartbeats. -/
theorem tick_lead (N L : Nat) (nv : NV) (lv : LV) (x s : Int) (t d : Nat) (w : World) (hN : Blk w N nv.cells 49) (hL : Blk w L lv.cells 56) (ht : IsTm x s t) (hd : IsTm nv.dx nv.ds d) (hge : d ≤ t) (hw : nv.won = .pointer (some ⟨L, 0, none⟩)) (ra : Option Addr) (rn rc : Nat) (Q : World → Prop)
    (HQ : ∀ w1, Turn (fun _ => False) w w1 → Calls Yba.prog 24 #[.pointer (some ⟨N, 0, none⟩), .agg #[.int .u64 x, .int .i64 s, .pointer none]] w1 fun e w' => e = .returned (.slice ra rn rc) ∧ Q w') :
    Calls Yba.prog 12 #[.pointer (some ⟨N, 0, none⟩), .agg #[.int .u64 x, .int .i64 s, .pointer none]] w fun e w' => e = .returned (.slice ra rn rc) ∧ Q w' := by
  have lN := hN.lt
  have b0 := Blk.new w #[.int .u64 x, .int .i64 s, .pointer none] 31
  have hN1 := hN.alloc (.cells #[.int .u64 x, .int .i64 s, .pointer none] 31)
  have hL1 := hL.alloc (.cells #[.int .u64 x, .int .i64 s, .pointer none] 31)
  have t1 := (Turn.refl (fun _ => False) w).alloc (.cells #[.int .u64 x, .int .i64 s, .pointer none] 31)
  obtain ⟨dx, hdx⟩ : ∃ dx, nv.dx = dx := ⟨_, rfl⟩
  obtain ⟨ds, hds⟩ : ∃ ds, nv.ds = ds := ⟨_, rfl⟩
  rw [hdx, hds] at hd
  have HDD : Hid (nv.dx = dx ∧ nv.ds = ds) := ⟨hdx, hds⟩
  have HB : Hid (decide (t < d) = false) := decide_eq_false (by omega)
  clear hdx hds hge
  go_enter Yba.func12, Yba.ntmps12
  go_wp2_with fail
  revert b0 hN1 hL1 t1
  generalize w.alloc (.cells #[.int .u64 x, .int .i64 s, .pointer none] 31) = w1
  generalize w.heap.size = B
  intro b0 hN1 hL1 t1
  obtain ⟨a0, a1, a2, _, _, _⟩ := b0.cells3
  have n0 : w1.cell? ⟨N, 43, none⟩ = some (.int .u64 dx) := by rw [← HDD.out.1]; exact hN1.cell 43 rfl
  have n1 : w1.cell? ⟨N, 44, none⟩ = some (.int .i64 ds) := by rw [← HDD.out.2]; exact hN1.cell 44 rfl
  have n2 : w1.cell? ⟨N, 45, none⟩ = some (.pointer none) := hN1.cell 45 rfl
  go_region_with (go_at_call 21; refine (before_any x s dx ds t d false _ ht hd HB.out).mono ?_; rintro e w2 ⟨rfl, ht2⟩)
  all_goals
    have N2 := ht2.blk hN1.drew id
    have L2 := ht2.blk hL1.drew id
    have b2 := ht2.blk b0.drew id
    clear a0 a1 a2 n0 n1 n2
    have c42 : w2.cell? ⟨N, 42, none⟩ = some (.pointer (some ⟨L, 0, none⟩)) := by rw [← hw]; exact N2.cell 42 rfl
    go_wp2_with fail
    refine (handing_false L lv w2 L2).mono ?_
    rintro e w3 ⟨rfl, ht3⟩
    have b3 := ht3.blk b2 id
    obtain ⟨a0, a1, a2, _, _, _⟩ := b3.cells3
    go_wp2_with fail
    refine (HQ w3 ((t1.drew.trans ht2).trans ht3)).mono ?_
    rintro e w4 ⟨rfl, hq⟩
    go_wp2_with fail
    go_ret
    exact ⟨rfl, hq⟩
end Go.Proofs.Ybulkaubm

import Derived.Test.YbulkaubmNew
namespace Go.Proofs.Ybulkaubm
open Go.RowKit
attribute [local go_sem ↓] Go.wp_at_zero Go.wp_at_succ

/-- zzs2274bnew: the boxes of its own, then New. -/
def BnewP (w w' : World) (N : Nat) (nm : ByteArray) (m et : Nat) (hb term : Int) (CB : Nat) (v cnt : Int) (t : Nat) (ms : List ByteArray) : Prop :=
  ∃ K V w1, NewP w1 w' N nm m et hb term K V CB v cnt t ms ∧ Turn (fun _ => False) w w1 ∧ w.heap.size ≤ w1.heap.size

theorem bnew_rnd {w : World} {CB : Nat} {v cnt : Int} (o2 o4 : Obj) (hC : Blk w CB #[.int .i64 cnt] 3) :
    Rnd ((((w.alloc (.cells #[.int .u32 v] 22)).alloc o2).alloc (.cells #[.pointer (some ⟨CB, 0, none⟩)] 35)).alloc o4) (w.heap.size + 1 + 1) w.heap.size CB v cnt :=
  ⟨(Blk.new' (by simp) _ _).alloc _, (((Blk.new w _ _).alloc _).alloc _).alloc _, (((hC.alloc _).alloc _).alloc _).alloc _⟩
theorem turn4 (w : World) (o1 o2 o3 o4 : Obj) : Turn (fun _ => False) w ((((w.alloc o1).alloc o2).alloc o3).alloc o4) := ((((Turn.refl _ w).alloc _).alloc _).alloc _).alloc _

set_option maxHeartbeats 1000000 in
theorem bnew_any (nm : ByteArray) (M m cap et CB : Nat) (ms : List ByteArray) (hb term x s v cnt : Int) (t : Nat) (w : World) (hC : Blk w CB #[.int .i64 cnt] 3) (hv : 0 ≤ v) (hv1 : v < 4294967296) (hcn : 0 ≤ cnt) (hcn1 : cnt ≤ 100) (ht : IsTm x s t) (he : et ≤ 2000000)
    (htb : t ≤ 100000000000000) (hm : m ≤ 8) (hml : ms.length = m) (hM : M < w.heap.size) (hmc : ∀ i (h : i < ms.length), w.cell? ⟨M, i, none⟩ = some (.string ms[i])) :
    Calls Yba.prog 10 #[.slice (some ⟨M, 0, none⟩) m cap, .string nm, .int .i64 et, .int .i64 hb, .int .u32 v, .agg #[.int .u64 x, .int .i64 s, .pointer none], .int .u64 term, .pointer (some ⟨CB, 0, none⟩)] w fun e w' =>
      ∃ N, e = .returned (.pointer (some ⟨N, 0, none⟩)) ∧ BnewP w w' N nm m et hb term CB v cnt t ms := by
  have hmf : ∀ (fn : Fn) (first cap : Array Value) (w : World), (Instr.makeFunc fn first cap).run Yba.prog w = .ok (.func fn first cap) w := fun _ _ _ _ => rfl
  go_enter Yba.func10, Yba.ntmps10
  go_wp2_with fail
  refine (new_any nm M m cap et (w.heap.size + 1 + 1) w.heap.size CB ms hb term x s v cnt t _ (bnew_rnd _ _ hC) hv hv1 hcn hcn1 ht he htb hm hml (by simp; omega) (fun i h => ?_)).mono ?_
  · rw [(turn4 w _ _ _ _).cell hM id]; exact hmc i h
  · rintro e w6 ⟨N, rfl, hP⟩
    go_wp2_with fail
    go_ret
    exact ⟨N, rfl, _, _, _, hP, turn4 w _ _ _ _, by simp; omega⟩

set_option maxHeartbeats 1000000 in
theorem tick_early (N : Nat) (nv : NV) (x s : Int) (t d : Nat) (w : World) (hN : Blk w N nv.cells 49) (ht : IsTm x s t) (hd : IsTm nv.dx nv.ds d) (hlt : t < d) :
    Calls Yba.prog 12 #[.pointer (some ⟨N, 0, none⟩), .agg #[.int .u64 x, .int .i64 s, .pointer none]] w fun e w' => e = .returned (.slice none 0 0) ∧ Turn (fun _ => False) w w' := by
  have lN := hN.lt
  have b0 := Blk.new w #[.int .u64 x, .int .i64 s, .pointer none] 31
  have hN1 := hN.alloc (.cells #[.int .u64 x, .int .i64 s, .pointer none] 31)
  have t1 := (Turn.refl (fun _ => False) w).alloc (.cells #[.int .u64 x, .int .i64 s, .pointer none] 31)
  obtain ⟨dx, hdx⟩ : ∃ dx, nv.dx = dx := ⟨_, rfl⟩
  obtain ⟨ds, hds⟩ : ∃ ds, nv.ds = ds := ⟨_, rfl⟩
  rw [hdx, hds] at hd
  have HDD : Hid (nv.dx = dx ∧ nv.ds = ds) := ⟨hdx, hds⟩
  have HB : Hid (decide (t < d) = true) := decide_eq_true hlt
  clear hdx hds hlt
  go_enter Yba.func12, Yba.ntmps12
  go_wp2_with fail
  revert b0 hN1 t1
  generalize w.alloc (.cells #[.int .u64 x, .int .i64 s, .pointer none] 31) = w1
  generalize w.heap.size = B
  intro b0 hN1 t1
  obtain ⟨a0, a1, a2, _, _, _⟩ := b0.cells3
  have n0 : w1.cell? ⟨N, 43, none⟩ = some (.int .u64 dx) := by rw [← HDD.out.1]; exact hN1.cell 43 rfl
  have n1 : w1.cell? ⟨N, 44, none⟩ = some (.int .i64 ds) := by rw [← HDD.out.2]; exact hN1.cell 44 rfl
  have n2 : w1.cell? ⟨N, 45, none⟩ = some (.pointer none) := hN1.cell 45 rfl
  go_region_with (go_at_call 21; refine (before_any x s dx ds t d true _ ht hd HB.out).mono ?_; rintro e w2 ⟨rfl, ht2⟩)
  all_goals go_wp2_with fail
  all_goals go_ret
  all_goals exact ⟨rfl, t1.drew.trans ht2⟩

end Go.Proofs.Ybulkaubm

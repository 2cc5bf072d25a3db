import Derived.Test.YbulkaubmMaps
import Derived.BigRegion
namespace Go.Proofs.Ybulkaubm
open Go.RowKit Go.ChangeMaps

theorem prevoting_nil (N : Nat) (nv : NV) (w : World) (hN : Blk w N nv.cells 49) (hr : nv.role = 0) (hv : nv.votes = .map none) :
    Calls Yba.prog 37 #[.pointer (some ⟨N, 0, none⟩)] w fun e w' => e = .returned (.bool false) ∧ w = w' := by
  have c9 : w.cell? ⟨N, 9, none⟩ = some (.int .i64 0) := by rw [← hr]; exact hN.cell 9 rfl
  have c29 : w.cell? ⟨N, 29, none⟩ = some (.map none) := by rw [← hv]; exact hN.cell 29 rfl
  have e1 := fun (w : World) => run_neq_map_nil (P := Yba.prog) w 41 9 4 none Yba.underlying41
  go_enter Yba.func37, Yba.ntmps37
  go_wp2
  go_ret
  exact ⟨rfl, rfl⟩

theorem climbs_nil (N : Nat) (nv : NV) (w : World) (hN : Blk w N nv.cells 49) (hr : nv.role = 0) (hv : nv.votes = .map none) :
    Calls Yba.prog 28 #[.pointer (some ⟨N, 0, none⟩)] w fun e w' => e = .returned (.bool false) ∧ w = w' := by
  go_enter Yba.func28, Yba.ntmps28
  go_wp2_with fail
  refine (prevoting_nil N nv w hN hr hv).mono ?_
  rintro e w' ⟨rfl, rfl⟩
  go_wp2_with fail
  go_ret
  exact ⟨rfl, rfl⟩

/-- adopt where the node has not won. -/
def adopted (nv : NV) (t : Int) : NV := { nv with term := t, role := 0, votedFor := ⟨#[]⟩, leader := ⟨#[]⟩, votes := .map none }

set_option maxHeartbeats 1000000 in
theorem adopt_any (N : Nat) (nv : NV) (x s t : Int) (w : World) (hN : Blk w N nv.cells 49) (hw : nv.won = .pointer none) :
    Calls Yba.prog 29 #[.pointer (some ⟨N, 0, none⟩), .agg #[.int .u64 x, .int .i64 s, .pointer none], .int .u64 t] w fun e w' => e = .returned (.tuple #[]) ∧ Blk w' N (adopted nv t).cells 49 ∧ Turn (· = N) w w' := by
  have lN := hN.lt
  have c42 : w.cell? ⟨N, 42, none⟩ = some (.pointer none) := by rw [← hw]; exact hN.cell 42 rfl
  have c9 : w.cell? ⟨N, 9, none⟩ = some (.int .i64 nv.role) := hN.cell 9 rfl
  have c10 : w.cell? ⟨N, 10, none⟩ = some (.int .u64 nv.term) := hN.cell 10 rfl
  have c11 : w.cell? ⟨N, 11, none⟩ = some (.string nv.votedFor) := hN.cell 11 rfl
  have c12 : w.cell? ⟨N, 12, none⟩ = some (.string nv.leader) := hN.cell 12 rfl
  have c13 : w.cell? ⟨N, 13, none⟩ = some (.int .u64 0) := hN.cell 13 rfl
  have c29 : w.cell? ⟨N, 29, none⟩ = some nv.votes := hN.cell 29 rfl
  have f9 := hN.frozen 9
  have f10 := hN.frozen 10
  have f11 := hN.frozen 11
  have f12 := hN.frozen 12
  have f13 := hN.frozen 13
  have f29 := hN.frozen 29
  go_enter Yba.func29, Yba.ntmps29
  go_wp2_with fail
  go_end0
  exact ⟨rfl, ((((((hN.term t).role 0).votedFor _).leader _).votes _).beat0).alloc _, (((((((Turn.refl (· = N) w).setN rfl _ _).setN rfl _ _).setN rfl _ _).setN rfl _ _).setN rfl _ _).setN rfl _ _).alloc _⟩

end Go.Proofs.Ybulkaubm

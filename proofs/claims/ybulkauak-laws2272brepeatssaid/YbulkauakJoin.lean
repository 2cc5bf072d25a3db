import Derived.Test.YbulkauakReads2
import Derived.Test.YbulkauakMem
namespace Go.Proofs.Ybulkauak
open Go.RowKit

/-! ### join (12) -/
/-- The bytes that join counts. -/
def joinC (comma : Bool) (c c' : Int) : Int := if comma then wrap64 (wrap64 (c + 1) + c') else wrap64 (c + c')
def joinI (i i' : Int) : Int := if i < i' then i' else i

set_option maxHeartbeats 400000 in
theorem join_any (comma : Bool) (bx : Nat) (v0 : Value) (c i t c' i' t' : Int) (w : World)
    (hb : Blk w bx #[v0, .int .i64 c, .int .i64 i, .int .i64 t] 29) :
    Calls Yba.prog 12 #[.pointer (some ⟨bx, 1, none⟩), .bool comma, .agg #[.int .i64 c', .int .i64 i', .int .i64 t']] w fun e w' => e = .returned (.tuple #[]) ∧
      Blk w' bx #[v0, .int .i64 (joinC comma c c'), .int .i64 (joinI i i'), .int .i64 (wrap64 (t + t'))] 29 ∧ Turn (· = bx) w w' := by
  have hbx := hb.lt
  have h1 := hb.cell 1 rfl
  have h2 := hb.cell 2 rfl
  have h3 := hb.cell 3 rfl
  have f1 := hb.frozen 1
  have f2 := hb.frozen 2
  have f3 := hb.frozen 3
  cases comma
  · by_cases hi : i < i'
    · go_enter Yba.func12, Yba.ntmps12
      go_wp2
      go_region
      go_wp2
      go_region
      go_wp2
      go_region
      go_wp2
      go_end0
      refine ⟨rfl, ?_, ?_⟩
      · rw [joinI, if_pos hi]
        exact (((hb.set 1 _).set 2 _).set 3 _).alloc _
      · repeat (first | apply Turn.drew | apply Turn.alloc | refine Turn.set ?_ (by left; rfl) _ | with_reducible exact Turn.refl _ _)
    · go_enter Yba.func12, Yba.ntmps12
      go_wp2
      go_region
      go_wp2
      go_region
      go_wp2
      go_region
      go_wp2
      go_end0
      refine ⟨rfl, ?_, ?_⟩
      · rw [joinI, if_neg (by omega)]
        exact (((hb.set 1 _).set 2 _).set 3 _).alloc _
      · repeat (first | apply Turn.drew | apply Turn.alloc | refine Turn.set ?_ (by left; rfl) _ | with_reducible exact Turn.refl _ _)
  · by_cases hi : i < i'
    · go_enter Yba.func12, Yba.ntmps12
      go_wp2
      go_region
      go_wp2
      go_region
      go_wp2
      go_region
      go_wp2
      go_end0
      refine ⟨rfl, ?_, ?_⟩
      · rw [joinI, if_pos hi]
        exact ((((hb.set 1 _).set 1 _).set 2 _).set 3 _).alloc _
      · repeat (first | apply Turn.drew | apply Turn.alloc | refine Turn.set ?_ (by left; rfl) _ | with_reducible exact Turn.refl _ _)
    · go_enter Yba.func12, Yba.ntmps12
      go_wp2
      go_region
      go_wp2
      go_region
      go_wp2
      go_region
      go_wp2
      go_end0
      refine ⟨rfl, ?_, ?_⟩
      · rw [joinI, if_neg (by omega)]
        exact ((((hb.set 1 _).set 1 _).set 2 _).set 3 _).alloc _
      · repeat (first | apply Turn.drew | apply Turn.alloc | refine Turn.set ?_ (by left; rfl) _ | with_reducible exact Turn.refl _ _)

end Go.Proofs.Ybulkauak

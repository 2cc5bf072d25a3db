import Derived.Test.YbulkauakJoin
namespace Go.Proofs.Ybulkauak
open Go.RowKit

theorem Vals.turn {S : Nat → Prop} {w w' : World} {bx be len cap : Nat} (h : Vals w bx be len cap) (ht : Turn S w w') (h1 : ¬ S bx) (h2 : ¬ S be) : Vals w' bx be len cap := by
  refine ⟨?_, fun e => ?_⟩
  · rw [ht.cell (World.block_lt_of_cell? w _ h.head) h1]; exact h.head
  · obtain ⟨s, hs⟩ := h.one e
    exact ⟨s, by rw [ht.cell (World.block_lt_of_cell? w _ hs) h2]; exact hs⟩

theorem Vals.alloc {w : World} {bx be len cap : Nat} (h : Vals w bx be len cap) (o : Obj) : Vals (w.alloc o) bx be len cap :=
  h.turn (S := fun _ => False) ((Turn.refl _ w).alloc o) id id

/-! ### clipped (16), clip (15), split (14) -/
set_option maxHeartbeats 400000 in
theorem clipped_same (p : Option Addr) (len : Nat) (w : World) (hl : len ≤ 2000) :
    Calls Yba.prog 16 #[.slice p len len] w fun e w' => e = .returned (.slice p len len) ∧ w = w' := by
  go_enter Yba.func16, Yba.ntmps16
  go_wp2
  go_ret
  exact ⟨rfl, rfl⟩

set_option maxHeartbeats 400000 in
theorem clip_vals (bx be len : Nat) (w : World) (h : Vals w bx be len len) (hl : len ≤ 2000) (hf : w.frozen? ⟨bx, 0, none⟩ = false) (_hbx : bx < w.heap.size) :
    Calls Yba.prog 15 #[.pointer (some ⟨bx, 0, none⟩)] w fun e w' => e = .returned (.tuple #[]) ∧ w.setCell ⟨bx, 0, none⟩ (.slice (some ⟨be, 0, none⟩) len len) = w' := by
  have hh := h.head
  go_enter Yba.func15, Yba.ntmps15
  go_wp2_with (first | (go_at_call 7; refine (packed_vals h).mono ?_; rintro e w' ⟨rfl, rfl⟩) | (go_at_call 16; refine (clipped_same _ len w hl).mono ?_; rintro e w' ⟨rfl, rfl⟩))
  go_end0
  exact ⟨rfl, rfl⟩

/-- What split leaves: the parts at block N; its list 'nl' parts long (none, or the one that holds what the array held). -/
structure Splat (w w' : World) (bx len N E nl : Nat) (ao : Option Addr) (olds : List Value) (c i t : Int) : Prop where
  parts : Blk w' N #[.slice ao nl nl, .int .i64 len] 36
  box : Blk w' E #[.iface 31 (.pointer (some ⟨N, 0, none⟩))] 24
  arr : Blk w' bx #[.slice (some ⟨E, 0, none⟩) 1 1, .int .i64 c, .int .i64 i, .int .i64 t] 29
  lt : w.heap.size ≤ N ∧ N < E
  ifNone : ao = none → nl = 0
  ifSome : ∀ b, ao = some b → ∃ L, b = ⟨L, 0, none⟩ ∧ N < L ∧ L ≠ E ∧ Blk w' L olds.toArray 38
  olds3 : olds.length = nl * 3
  turn : Turn (· = bx) w w'

theorem Blk.new' {w : World} {N : Nat} (h : w.heap.size = N) (cs : Array Value) (t : TypeId) : Blk (w.alloc (.cells cs t)) N cs t := by
  subst h; exact Blk.new w cs t

theorem splat_some (bx len : Nat) (v v1 : Value) (c i t : Int) (w : World) (B : Obj)
    (hb : Blk w bx #[v, .int .i64 c, .int .i64 i, .int .i64 t] 29) :
    Splat w ((((((w.setCell ⟨bx, 0, none⟩ (.slice (some ⟨w.heap.size + 1 + 1 + 1, 0, none⟩) 1 1)).alloc (.cells #[.slice (some ⟨w.heap.size + 1 + 1, 0, none⟩) 1 1, .int .i64 len] 36)).alloc B).alloc
      (.cells #[v1, .int .i64 0, .bool true] 38)).alloc (.cells #[.iface 31 (.pointer (some ⟨w.heap.size, 0, none⟩))] 24)).drew)
      bx len w.heap.size (w.heap.size + 1 + 1 + 1) 1 (some ⟨w.heap.size + 1 + 1, 0, none⟩) [v1, .int .i64 0, .bool true] c i t where
  parts := (((Blk.new' (by simp) _ _).alloc _).alloc _).alloc _
  box := Blk.new' (by simp) _ _
  arr := ((((hb.set 0 _).alloc _).alloc _).alloc _).alloc _
  lt := ⟨Nat.le_refl _, by omega⟩
  ifNone := fun h => by cases h
  ifSome := fun b h => by cases h; exact ⟨_, rfl, by omega, by omega, (Blk.new' (by simp) _ _).alloc _⟩
  olds3 := rfl
  turn := (((((((Turn.refl (· = bx) w).set (p := ⟨bx, 0, none⟩) (Or.inl rfl) _).alloc _).alloc _).alloc _).alloc _).drew)

theorem splat_none (bx : Nat) (v : Value) (c i t : Int) (w : World)
    (hb : Blk w bx #[v, .int .i64 c, .int .i64 i, .int .i64 t] 29) :
    Splat w (((w.setCell ⟨bx, 0, none⟩ (.slice (some ⟨w.heap.size + 1, 0, none⟩) 1 1)).alloc (.cells #[.slice none 0 0, .int .i64 0] 36)).alloc
      (.cells #[.iface 31 (.pointer (some ⟨w.heap.size, 0, none⟩))] 24))
      bx 0 w.heap.size (w.heap.size + 1) 0 none [] c i t where
  parts := (Blk.new' (by simp) _ _).alloc _
  box := Blk.new' (by simp) _ _
  arr := ((hb.set 0 _).alloc _).alloc _
  lt := ⟨Nat.le_refl _, by omega⟩
  ifNone := fun _ => rfl
  ifSome := fun b h => by cases h
  olds3 := rfl
  turn := (((Turn.refl (· = bx) w).set (p := ⟨bx, 0, none⟩) (Or.inl rfl) _).alloc _).alloc _

set_option maxHeartbeats 400000 in
theorem split_some (bx be len : Nat) (c i t : Int) (w : World) (h : Vals w bx be len len) (hl : len ≤ 2000) (hpos : 0 < len)
    (hb : Blk w bx #[.slice (some ⟨be, 0, none⟩) len len, .int .i64 c, .int .i64 i, .int .i64 t] 29) :
    Calls Yba.prog 14 #[.pointer (some ⟨bx, 0, none⟩)] w fun e w' => e = .returned (.pointer (some ⟨w.heap.size, 0, none⟩)) ∧
      Splat w w' bx len w.heap.size (w.heap.size + 1 + 1 + 1) 1 (some ⟨w.heap.size + 1 + 1, 0, none⟩) [.pointer (some ⟨w.heap.size + 1, 0, none⟩), .int .i64 0, .bool true] c i t := by
  have hh := h.head
  have hbx := hb.lt
  have h1 := hb.cell 1 rfl
  have h2 := hb.cell 2 rfl
  have h3 := hb.cell 3 rfl
  have f0 := hb.frozen 0
  have f1 := hb.frozen 1
  have f2 := hb.frozen 2
  have f3 := hb.frozen 3
  have hF : ∀ o : Obj, Vals (((w.alloc o).alloc (.cells #[.slice (some ⟨be, 0, none⟩) len len, .int .i64 c, .int .i64 i, .int .i64 t] 29)).drew) (w.heap.size + 1) be len len := by
    intro o
    have hn := Blk.new (w.alloc o) #[.slice (some ⟨be, 0, none⟩) len len, .int .i64 c, .int .i64 i, .int .i64 t] 29
    rw [World.size_alloc] at hn
    refine ⟨hn.drew.cell 0 rfl, fun e => ?_⟩
    exact (((h.alloc o).alloc _).one e)
  have hG : ∀ o : Obj, (((w.alloc o).alloc (.cells #[.slice (some ⟨be, 0, none⟩) len len, .int .i64 c, .int .i64 i, .int .i64 t] 29)).drew).frozen? ⟨w.heap.size + 1, 0, none⟩ = false := by
    intro o
    have hn := Blk.new (w.alloc o) #[.slice (some ⟨be, 0, none⟩) len len, .int .i64 c, .int .i64 i, .int .i64 t] 29
    rw [World.size_alloc] at hn
    exact hn.drew.frozen 0
  have n1 : bx < w.heap.size + 1 := by omega
  have n2 : bx < w.heap.size + 1 + 1 := by omega
  have n3 : bx < w.heap.size + 1 + 1 + 1 := by omega
  go_enter Yba.func14, Yba.ntmps14
  go_wp2_with fail
  refine (len_vals (h.alloc _)).mono ?_
  rintro e w' ⟨rfl, rfl⟩
  go_wp2_with fail
  go_region
  go_wp2_with fail
  refine (clip_vals (w.heap.size + 1) be len _ (hF _) hl (hG _) (by simp)).mono ?_
  rintro e w' ⟨rfl, rfl⟩
  clear hF hG
  go_wp2_with fail
  go_ret
  refine ⟨rfl, ?_⟩
  exact splat_some bx len _ _ c i t w _ hb

set_option maxHeartbeats 400000 in
theorem split_none (bx be cap : Nat) (c i t : Int) (w : World) (h : Vals w bx be 0 cap)
    (hb : Blk w bx #[.slice (some ⟨be, 0, none⟩) 0 cap, .int .i64 c, .int .i64 i, .int .i64 t] 29) :
    Calls Yba.prog 14 #[.pointer (some ⟨bx, 0, none⟩)] w fun e w' => e = .returned (.pointer (some ⟨w.heap.size, 0, none⟩)) ∧
      Splat w w' bx 0 w.heap.size (w.heap.size + 1) 0 none [] c i t := by
  have hh := h.head
  have hbx := hb.lt
  have f0 := hb.frozen 0
  have n1 : bx < w.heap.size + 1 := by omega
  go_enter Yba.func14, Yba.ntmps14
  go_wp2_with fail
  refine (len_vals (h.alloc _)).mono ?_
  rintro e w' ⟨rfl, rfl⟩
  go_wp2_with fail
  go_ret
  exact ⟨rfl, splat_none bx _ c i t w hb⟩

end Go.Proofs.Ybulkauak

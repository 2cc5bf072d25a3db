import Derived.Test.YbulkauakRows
import Derived.WalkKit
import Derived.WalkSpells
import Derived.WalkLawsBesides
namespace Go.Proofs.Ybulkauak
open Go.RowKit

/-! ### Closed facts: what each type assertion on the road answers -/
theorem ta9_31 (v : Value) (w : World) : (Instr.typeAssert (.iface 9 v) 24 31 true).run Yba.prog w = .ok (.tuple #[.pointer none, .bool false]) w := by kernel_rfl
theorem ta31_31 (v : Value) (w : World) : (Instr.typeAssert (.iface 31 v) 24 31 true).run Yba.prog w = .ok (.tuple #[v, .bool true]) w := by kernel_rfl
theorem ta9_54 (v : Value) (w : World) : (Instr.typeAssert (.iface 9 v) 24 54 true).run Yba.prog w = .ok (.tuple #[.pointer none, .bool false]) w := by kernel_rfl
theorem ta9_55 (v : Value) (w : World) : (Instr.typeAssert (.iface 9 v) 24 55 true).run Yba.prog w = .ok (.tuple #[.pointer none, .bool false]) w := by kernel_rfl
theorem ta9_39 (v : Value) (w : World) : (Instr.typeAssert (.iface 9 v) 24 39 true).run Yba.prog w = .ok (.tuple #[.pointer none, .bool false]) w := by kernel_rfl
theorem ta9_56 (v : Value) (w : World) : (Instr.typeAssert (.iface 9 v) 24 56 true).run Yba.prog w = .ok (.tuple #[.pointer none, .bool false]) w := by kernel_rfl
theorem ta9_57 (v : Value) (w : World) : (Instr.typeAssert (.iface 9 v) 24 57 true).run Yba.prog w = .ok (.tuple #[.pointer none, .bool false]) w := by kernel_rfl
theorem ta9_58 (v : Value) (w : World) : (Instr.typeAssert (.iface 9 v) 24 58 true).run Yba.prog w = .ok (.tuple #[.pointer none, .bool false]) w := by kernel_rfl
theorem ta31_54 (v : Value) (w : World) : (Instr.typeAssert (.iface 31 v) 24 54 true).run Yba.prog w = .ok (.tuple #[.pointer none, .bool false]) w := by kernel_rfl
theorem ta31_55 (v : Value) (w : World) : (Instr.typeAssert (.iface 31 v) 24 55 true).run Yba.prog w = .ok (.tuple #[.pointer none, .bool false]) w := by kernel_rfl
theorem ta31_39 (v : Value) (w : World) : (Instr.typeAssert (.iface 31 v) 24 39 true).run Yba.prog w = .ok (.tuple #[.pointer none, .bool false]) w := by kernel_rfl
theorem ta31_56 (v : Value) (w : World) : (Instr.typeAssert (.iface 31 v) 24 56 true).run Yba.prog w = .ok (.tuple #[.pointer none, .bool false]) w := by kernel_rfl
theorem ta31_57 (v : Value) (w : World) : (Instr.typeAssert (.iface 31 v) 24 57 true).run Yba.prog w = .ok (.tuple #[.pointer none, .bool false]) w := by kernel_rfl
theorem ta31_58 (v : Value) (w : World) : (Instr.typeAssert (.iface 31 v) 24 58 true).run Yba.prog w = .ok (.tuple #[.pointer none, .bool false]) w := by kernel_rfl
theorem ta39_54 (v : Value) (w : World) : (Instr.typeAssert (.iface 39 v) 24 54 true).run Yba.prog w = .ok (.tuple #[.pointer none, .bool false]) w := by kernel_rfl
theorem ta39_55 (v : Value) (w : World) : (Instr.typeAssert (.iface 39 v) 24 55 true).run Yba.prog w = .ok (.tuple #[.pointer none, .bool false]) w := by kernel_rfl
theorem ta39_39 (v : Value) (w : World) : (Instr.typeAssert (.iface 39 v) 24 39 true).run Yba.prog w = .ok (.tuple #[v, .bool true]) w := by kernel_rfl
theorem tb39_39 (v : Value) (w : World) : (Instr.typeAssert (.iface 39 v) 42 39 true).run Yba.prog w = .ok (.tuple #[v, .bool true]) w := by kernel_rfl
theorem tbnil_39 (w : World) : (Instr.typeAssert .nilIface 42 39 true).run Yba.prog w = .ok (.tuple #[.pointer none, .bool false]) w := by kernel_rfl

/-! ### inParts (5) -/
set_option maxHeartbeats 400000 in
theorem inParts_len (bx : Nat) (p : Option Addr) (len cap : Nat) (w : World)
    (hc : w.cell? ⟨bx, 0, none⟩ = some (.slice p len cap)) (h : ((len : Int) == 1) = false) :
    Calls Yba.prog 5 #[.pointer (some ⟨bx, 0, none⟩)] w fun e w' => e = .returned (.pointer none) ∧ w = w' := by
  go_enter Yba.func5, Yba.ntmps5
  go_wp2
  go_ret
  exact ⟨rfl, rfl⟩

set_option maxHeartbeats 400000 in
theorem inParts_str (bx be oe : Nat) (cap : Nat) (s : ByteArray) (w : World)
    (hc : w.cell? ⟨bx, 0, none⟩ = some (.slice (some ⟨be, oe, none⟩) 1 cap)) (he : w.cell? ⟨be, oe, none⟩ = some (.iface 9 (.string s))) :
    Calls Yba.prog 5 #[.pointer (some ⟨bx, 0, none⟩)] w fun e w' => e = .returned (.pointer none) ∧ w = w' := by
  have t := ta9_31
  go_enter Yba.func5, Yba.ntmps5
  go_wp2
  go_ret
  exact ⟨rfl, rfl⟩

set_option maxHeartbeats 400000 in
theorem inParts_yes (bx be oe : Nat) (cap : Nat) (P : Addr) (w : World)
    (hc : w.cell? ⟨bx, 0, none⟩ = some (.slice (some ⟨be, oe, none⟩) 1 cap)) (he : w.cell? ⟨be, oe, none⟩ = some (.iface 31 (.pointer (some P)))) :
    Calls Yba.prog 5 #[.pointer (some ⟨bx, 0, none⟩)] w fun e w' => e = .returned (.pointer (some P)) ∧ w = w' := by
  have t := ta31_31
  go_enter Yba.func5, Yba.ntmps5
  go_wp2
  go_ret
  exact ⟨rfl, rfl⟩

/-! ### packed (7) -/
set_option maxHeartbeats 400000 in
theorem packed_len (bx : Nat) (p : Option Addr) (len cap : Nat) (w : World)
    (hc : w.cell? ⟨bx, 0, none⟩ = some (.slice p len cap)) (h : ((len : Int) == 1) = false) :
    Calls Yba.prog 7 #[.pointer (some ⟨bx, 0, none⟩)] w fun e w' => e = .returned .nilIface ∧ w = w' := by
  go_enter Yba.func7, Yba.ntmps7
  go_wp2
  go_ret
  exact ⟨rfl, rfl⟩

set_option maxHeartbeats 400000 in
theorem packed_str (bx be oe : Nat) (cap : Nat) (s : ByteArray) (w : World)
    (hc : w.cell? ⟨bx, 0, none⟩ = some (.slice (some ⟨be, oe, none⟩) 1 cap)) (he : w.cell? ⟨be, oe, none⟩ = some (.iface 9 (.string s))) :
    Calls Yba.prog 7 #[.pointer (some ⟨bx, 0, none⟩)] w fun e w' => e = .returned .nilIface ∧ w = w' := by
  have t1 := ta9_54
  have t2 := ta9_55
  have t3 := ta9_39
  have t4 := ta9_56
  have t5 := ta9_57
  have t6 := ta9_58
  go_enter Yba.func7, Yba.ntmps7
  go_wp2
  go_ret
  exact ⟨rfl, rfl⟩

set_option maxHeartbeats 400000 in
theorem packed_parts (bx be oe : Nat) (cap : Nat) (P : Addr) (w : World)
    (hc : w.cell? ⟨bx, 0, none⟩ = some (.slice (some ⟨be, oe, none⟩) 1 cap)) (he : w.cell? ⟨be, oe, none⟩ = some (.iface 31 (.pointer (some P)))) :
    Calls Yba.prog 7 #[.pointer (some ⟨bx, 0, none⟩)] w fun e w' => e = .returned .nilIface ∧ w = w' := by
  have t1 := ta31_54
  have t2 := ta31_55
  have t3 := ta31_39
  have t4 := ta31_56
  have t5 := ta31_57
  have t6 := ta31_58
  go_enter Yba.func7, Yba.ntmps7
  go_wp2
  go_ret
  exact ⟨rfl, rfl⟩

set_option maxHeartbeats 400000 in
theorem packed_cyc (bx be oe : Nat) (cap : Nat) (P : Addr) (w : World)
    (hc : w.cell? ⟨bx, 0, none⟩ = some (.slice (some ⟨be, oe, none⟩) 1 cap)) (he : w.cell? ⟨be, oe, none⟩ = some (.iface 39 (.pointer (some P)))) :
    Calls Yba.prog 7 #[.pointer (some ⟨bx, 0, none⟩)] w fun e w' => e = .returned (.iface 39 (.pointer (some P))) ∧ w = w' := by
  have t1 := ta39_54
  have t2 := ta39_55
  have t3 := ta39_39
  go_enter Yba.func7, Yba.ntmps7
  go_wp2
  go_ret
  exact ⟨rfl, rfl⟩

/-! ### cycle.len (35), len (6) -/
set_option maxHeartbeats 400000 in
theorem cycleLen (bc : Nat) (n : Int) (w : World) (hn : w.cell? ⟨bc, 5, none⟩ = some (.int .i64 n)) :
    Calls Yba.prog 35 #[.pointer (some ⟨bc, 0, none⟩)] w fun e w' => e = .returned (.int .i64 n) ∧ w = w' := by
  go_enter Yba.func35, Yba.ntmps35
  go_wp2
  go_ret
  exact ⟨rfl, rfl⟩

set_option maxHeartbeats 400000 in
theorem len_len (bx : Nat) (p : Option Addr) (len cap : Nat) (w : World)
    (hc : w.cell? ⟨bx, 0, none⟩ = some (.slice p len cap)) (h : ((len : Int) == 1) = false) :
    Calls Yba.prog 6 #[.pointer (some ⟨bx, 0, none⟩)] w fun e w' => e = .returned (.int .i64 len) ∧ w = w' := by
  go_enter Yba.func6, Yba.ntmps6
  go_wp2_with (first | (go_at_call 7; refine (packed_len bx p len cap w hc h).mono ?_; rintro e w' ⟨rfl, rfl⟩) | (go_at_call 5; refine (inParts_len bx p len cap w hc h).mono ?_; rintro e w' ⟨rfl, rfl⟩))
  go_ret
  exact ⟨rfl, rfl⟩

set_option maxHeartbeats 400000 in
theorem len_str (bx be oe : Nat) (cap : Nat) (s : ByteArray) (w : World)
    (hc : w.cell? ⟨bx, 0, none⟩ = some (.slice (some ⟨be, oe, none⟩) 1 cap)) (he : w.cell? ⟨be, oe, none⟩ = some (.iface 9 (.string s))) :
    Calls Yba.prog 6 #[.pointer (some ⟨bx, 0, none⟩)] w fun e w' => e = .returned (.int .i64 1) ∧ w = w' := by
  go_enter Yba.func6, Yba.ntmps6
  go_wp2_with (first | (go_at_call 7; refine (packed_str bx be oe cap s w hc he).mono ?_; rintro e w' ⟨rfl, rfl⟩) | (go_at_call 5; refine (inParts_str bx be oe cap s w hc he).mono ?_; rintro e w' ⟨rfl, rfl⟩))
  go_ret
  exact ⟨rfl, rfl⟩

set_option maxHeartbeats 400000 in
theorem len_parts (bx be oe bp : Nat) (cap : Nat) (n : Int) (w : World)
    (hc : w.cell? ⟨bx, 0, none⟩ = some (.slice (some ⟨be, oe, none⟩) 1 cap)) (he : w.cell? ⟨be, oe, none⟩ = some (.iface 31 (.pointer (some ⟨bp, 0, none⟩))))
    (hn : w.cell? ⟨bp, 1, none⟩ = some (.int .i64 n)) :
    Calls Yba.prog 6 #[.pointer (some ⟨bx, 0, none⟩)] w fun e w' => e = .returned (.int .i64 n) ∧ w = w' := by
  go_enter Yba.func6, Yba.ntmps6
  go_wp2_with (first | (go_at_call 7; refine (packed_parts bx be oe cap _ w hc he).mono ?_; rintro e w' ⟨rfl, rfl⟩) | (go_at_call 5; refine (inParts_yes bx be oe cap _ w hc he).mono ?_; rintro e w' ⟨rfl, rfl⟩))
  go_ret
  exact ⟨rfl, rfl⟩

theorem mkEq {α : Type} {a : α} (b : α) (h : a = b) : a = b := h

set_option maxHeartbeats 400000 in
theorem len_cyc (bx be oe bc : Nat) (cap : Nat) (n : Int) (w : World)
    (hc : w.cell? ⟨bx, 0, none⟩ = some (.slice (some ⟨be, oe, none⟩) 1 cap)) (he : w.cell? ⟨be, oe, none⟩ = some (.iface 39 (.pointer (some ⟨bc, 0, none⟩))))
    (hn : w.cell? ⟨bc, 5, none⟩ = some (.int .i64 n)) :
    Calls Yba.prog 6 #[.pointer (some ⟨bx, 0, none⟩)] w fun e w' => e = .returned (.int .i64 n) ∧ w = w' := by
  go_enter Yba.func6, Yba.ntmps6
  go_wp2_with fail
  refine (packed_cyc bx be oe cap _ w hc he).mono ?_
  rintro e w' ⟨rfl, rfl⟩
  set_option maxRecDepth 4000 in
  go_wp2_with fail
  conv in (Sem.run Yba.prog (method _ _ _ _) _) => tactic => exact mkEq (.ok (35, .pointer (some ⟨bc, 0, none⟩)) w) (by kernel_rfl)
  go_wp2_with fail
  refine (cycleLen bc n w hn).mono ?_
  rintro e w' ⟨rfl, rfl⟩
  go_wp2_with fail
  go_ret
  exact ⟨rfl, rfl⟩

/-! ### tail (9) -/
set_option maxHeartbeats 400000 in
theorem tail_len (bx : Nat) (p : Option Addr) (len cap : Nat) (w : World)
    (hc : w.cell? ⟨bx, 0, none⟩ = some (.slice p len cap)) (h : ((len : Int) == 1) = false) :
    Calls Yba.prog 9 #[.pointer (some ⟨bx, 0, none⟩)] w fun e w' => e = .returned (.pointer (some ⟨bx, 0, none⟩)) ∧ w = w' := by
  go_enter Yba.func9, Yba.ntmps9
  go_wp2_with (go_at_call 5; refine (inParts_len bx p len cap w hc h).mono ?_; rintro e w' ⟨rfl, rfl⟩)
  go_ret
  exact ⟨rfl, rfl⟩

set_option maxHeartbeats 400000 in
theorem tail_str (bx be oe : Nat) (cap : Nat) (s : ByteArray) (w : World)
    (hc : w.cell? ⟨bx, 0, none⟩ = some (.slice (some ⟨be, oe, none⟩) 1 cap)) (he : w.cell? ⟨be, oe, none⟩ = some (.iface 9 (.string s))) :
    Calls Yba.prog 9 #[.pointer (some ⟨bx, 0, none⟩)] w fun e w' => e = .returned (.pointer (some ⟨bx, 0, none⟩)) ∧ w = w' := by
  go_enter Yba.func9, Yba.ntmps9
  go_wp2_with (go_at_call 5; refine (inParts_str bx be oe cap s w hc he).mono ?_; rintro e w' ⟨rfl, rfl⟩)
  go_ret
  exact ⟨rfl, rfl⟩

set_option maxHeartbeats 400000 in
theorem tail_parts1 (bx be oe bp bl bt : Nat) (cap cap2 : Nat) (w : World)
    (hc : w.cell? ⟨bx, 0, none⟩ = some (.slice (some ⟨be, oe, none⟩) 1 cap)) (he : w.cell? ⟨be, oe, none⟩ = some (.iface 31 (.pointer (some ⟨bp, 0, none⟩))))
    (hl : w.cell? ⟨bp, 0, none⟩ = some (.slice (some ⟨bl, 0, none⟩) 1 cap2)) (ho : w.cell? ⟨bl, 2, none⟩ = some (.bool true)) (ht : w.cell? ⟨bl, 0, none⟩ = some (.pointer (some ⟨bt, 0, none⟩))) :
    Calls Yba.prog 9 #[.pointer (some ⟨bx, 0, none⟩)] w fun e w' => e = .returned (.pointer (some ⟨bt, 0, none⟩)) ∧ w = w' := by
  go_enter Yba.func9, Yba.ntmps9
  go_wp2_with (go_at_call 5; refine (inParts_yes bx be oe cap _ w hc he).mono ?_; rintro e w' ⟨rfl, rfl⟩)
  go_ret
  exact ⟨rfl, rfl⟩

set_option maxHeartbeats 400000 in
theorem tail_parts2 (bx be oe bp bl bt : Nat) (cap cap2 : Nat) (w : World)
    (hc : w.cell? ⟨bx, 0, none⟩ = some (.slice (some ⟨be, oe, none⟩) 1 cap)) (he : w.cell? ⟨be, oe, none⟩ = some (.iface 31 (.pointer (some ⟨bp, 0, none⟩))))
    (hl : w.cell? ⟨bp, 0, none⟩ = some (.slice (some ⟨bl, 0, none⟩) 2 cap2)) (ho : w.cell? ⟨bl, 5, none⟩ = some (.bool true)) (ht : w.cell? ⟨bl, 3, none⟩ = some (.pointer (some ⟨bt, 0, none⟩))) :
    Calls Yba.prog 9 #[.pointer (some ⟨bx, 0, none⟩)] w fun e w' => e = .returned (.pointer (some ⟨bt, 0, none⟩)) ∧ w = w' := by
  go_enter Yba.func9, Yba.ntmps9
  go_wp2_with (go_at_call 5; refine (inParts_yes bx be oe cap _ w hc he).mono ?_; rintro e w' ⟨rfl, rfl⟩)
  go_ret
  exact ⟨rfl, rfl⟩

end Go.Proofs.Ybulkauak

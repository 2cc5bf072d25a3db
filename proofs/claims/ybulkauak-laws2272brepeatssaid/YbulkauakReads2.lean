import Derived.Test.YbulkauakReads
import Derived.Deep.QuietTactic
import Derived.BigQuiet
import Derived.RegionTactic
import Derived.LaidEqlPtr
import Derived.Lib.Builder
namespace Go.Proofs.Ybulkauak
open Go.RowKit

theorem quiet_same {P : Program} {f : FuncId} {args : Array Value} {w : World} {n : Nat} {v : Value}
    (h : Calls P f args (w.drewN n) fun e w' => e = .returned v ∧ w.drewN n = w') : Calls P f args (w.drewN n) fun e w'' => e = .returned v ∧ ∃ m, w'' = w.drewN m :=
  h.mono fun _ _ ⟨he, hm⟩ => ⟨he, n, hm.symm⟩

/-! ### An array held as values: its elements are strings (only the single one is looked at) -/
/-- The array struct at block bx holds 'len' values from block be on; where there is just one, it is a string. -/
structure Vals (w : World) (bx be len cap : Nat) : Prop where
  head : w.cell? ⟨bx, 0, none⟩ = some (.slice (some ⟨be, 0, none⟩) len cap)
  one : len = 1 → ∃ s, w.cell? ⟨be, 0, none⟩ = some (.iface 9 (.string s))

theorem Vals.drewN {w : World} {bx be len cap : Nat} (h : Vals w bx be len cap) (n : Nat) : Vals (w.drewN n) bx be len cap :=
  ⟨by simpa using h.head, fun e => by simpa using h.one e⟩

theorem ne_one {len : Nat} (h : ¬ len = 1) : ((len : Int) == 1) = false := by
  simp; omega

theorem inParts_vals {w : World} {bx be len cap : Nat} (h : Vals w bx be len cap) :
    Calls Yba.prog 5 #[.pointer (some ⟨bx, 0, none⟩)] w fun e w' => e = .returned (.pointer none) ∧ w = w' := by
  by_cases h1 : len = 1
  · subst h1
    obtain ⟨s, hs⟩ := h.one rfl
    exact inParts_str bx be 0 cap s w h.head hs
  · exact inParts_len bx _ len cap w h.head (ne_one h1)

theorem packed_vals {w : World} {bx be len cap : Nat} (h : Vals w bx be len cap) :
    Calls Yba.prog 7 #[.pointer (some ⟨bx, 0, none⟩)] w fun e w' => e = .returned .nilIface ∧ w = w' := by
  by_cases h1 : len = 1
  · subst h1
    obtain ⟨s, hs⟩ := h.one rfl
    exact packed_str bx be 0 cap s w h.head hs
  · exact packed_len bx _ len cap w h.head (ne_one h1)

theorem len_vals {w : World} {bx be len cap : Nat} (h : Vals w bx be len cap) :
    Calls Yba.prog 6 #[.pointer (some ⟨bx, 0, none⟩)] w fun e w' => e = .returned (.int .i64 len) ∧ w = w' := by
  by_cases h1 : len = 1
  · subst h1
    obtain ⟨s, hs⟩ := h.one rfl
    exact len_str bx be 0 cap s w h.head hs
  · exact len_len bx _ len cap w h.head (ne_one h1)

theorem tail_vals {w : World} {bx be len cap : Nat} (h : Vals w bx be len cap) :
    Calls Yba.prog 9 #[.pointer (some ⟨bx, 0, none⟩)] w fun e w' => e = .returned (.pointer (some ⟨bx, 0, none⟩)) ∧ w = w' := by
  by_cases h1 : len = 1
  · subst h1
    obtain ⟨s, hs⟩ := h.one rfl
    exact tail_str bx be 0 cap s w h.head hs
  · exact tail_len bx _ len cap w h.head (ne_one h1)

/-! ### cycle.at (8) -/
set_option maxHeartbeats 400000 in
theorem cycleAt (bc br k j : Nat) (v : Value) (w : World)
    (hof : w.cell? ⟨bc, 0, none⟩ = some (.slice (some ⟨br, 0, none⟩) k k)) (hs : w.cell? ⟨bc, 4, none⟩ = some (.int .i64 0))
    (hk : 0 < k) (_hk2 : k ≤ 2000) (_hj : j ≤ 10000) (hv : w.cell? ⟨br, j % k, none⟩ = some v) :
    Calls Yba.prog 8 #[.pointer (some ⟨bc, 0, none⟩), .int .i64 j] w fun e w' => e = .returned v ∧ ∃ n, w' = w.drewN n := by
  have hlt : j % k < k := Nat.mod_lt _ hk
  have hlt' : (j : Int) % (k : Int) < (k : Int) := by omega
  have hlt0 : 0 ≤ (j : Int) % (k : Int) := by omega
  have hk' : 0 < (k : Int) := by omega
  go_enter Yba.func8, Yba.ntmps8
  go_wp2
  go_quiet (fail)
  go_wp2
  go_ret
  exact ⟨rfl, nq, rfl⟩

/-! ### Two pointers of one address, of two -/
theorem eql46 (a : Addr) (w : World) : (binOp .eql 46 (.pointer (some a)) (.pointer (some a))).run Yba.prog w = .ok (.bool true) w := by
  obtain ⟨j, hj⟩ := Option.isSome_iff_exists.1 (show (Yba.prog.info? 24).isSome = true by kernel_rfl)
  exact run_eql_ptr_same w a (by kernel_rfl) hj
theorem neq46 (a : Addr) (w : World) : (binOp .neq 46 (.pointer (some a)) (.pointer (some a))).run Yba.prog w = .ok (.bool false) w := by
  obtain ⟨j, hj⟩ := Option.isSome_iff_exists.1 (show (Yba.prog.info? 24).isSome = true by kernel_rfl)
  exact Lib.run_neq_ptr_same w a (by kernel_rfl) hj

/-! ### goesOnWith (13), goingOn (10) -/
set_option maxHeartbeats 400000 in
theorem goesOn_yes (bc bx br k cap m : Nat) (w : World) (hr : Vals w bx br k cap)
    (hof : w.cell? ⟨bc, 0, none⟩ = some (.slice (some ⟨br, 0, none⟩) k k)) (hs : w.cell? ⟨bc, 4, none⟩ = some (.int .i64 0))
    (hn : w.cell? ⟨bc, 5, none⟩ = some (.int .i64 (m * k : Nat)))
    (hk : 0 < k) (hk2 : k ≤ 2000) (hm : m ≤ 5) :
    Calls Yba.prog 13 #[.pointer (some ⟨bc, 0, none⟩), .pointer (some ⟨bx, 0, none⟩)] w fun e w' => e = .returned (.bool true) ∧ ∃ n, w' = w.drewN n := by
  obtain ⟨q, hq⟩ : ∃ q : Nat, q = m * k := ⟨_, rfl⟩
  have hb : m * k ≤ 5 * 2000 := Nat.mul_le_mul hm hk2
  have hmod : q % k = 0 := by rw [hq]; exact Nat.mul_mod_left m k
  rw [← hq] at hn hb
  have hmod' : (q : Int) % (k : Int) = 0 := by omega
  have hk' : 0 < (k : Int) := by omega
  have hh := hr.head
  clear hq hmod
  have he := eql46
  go_enter Yba.func13, Yba.ntmps13
  go_wp2
  go_quiet ((go_at_call 6; exact quiet_same (len_vals (hr.drewN _))))
  go_wp2
  go_ret
  exact ⟨rfl, nq, rfl⟩

set_option maxHeartbeats 400000 in
theorem goingOn_yes (bt be bc bx br k cap m cap2 : Nat) (w : World) (hr : Vals w bx br k cap)
    (hc : w.cell? ⟨bt, 0, none⟩ = some (.slice (some ⟨be, 0, none⟩) 1 cap2)) (he : w.cell? ⟨be, 0, none⟩ = some (.iface 39 (.pointer (some ⟨bc, 0, none⟩))))
    (hof : w.cell? ⟨bc, 0, none⟩ = some (.slice (some ⟨br, 0, none⟩) k k)) (hs : w.cell? ⟨bc, 4, none⟩ = some (.int .i64 0))
    (hn : w.cell? ⟨bc, 5, none⟩ = some (.int .i64 (m * k : Nat)))
    (hk : 0 < k) (hk2 : k ≤ 2000) (hm : m ≤ 5) :
    Calls Yba.prog 10 #[.pointer (some ⟨bt, 0, none⟩), .pointer (some ⟨bx, 0, none⟩)] w fun e w' => e = .returned (.pointer (some ⟨bc, 0, none⟩)) ∧ ∃ n, w' = w.drewN n := by
  have t := tb39_39
  go_enter Yba.func10, Yba.ntmps10
  go_wp2_with (first | (go_at_call 7; refine (packed_cyc bt be 0 cap2 _ w hc he).mono ?_; rintro e w' ⟨rfl, rfl⟩) | (go_at_call 13; refine (goesOn_yes bc bx br k cap m w hr hof hs hn hk hk2 hm).mono ?_; rintro e w' ⟨rfl, nq, rfl⟩))
  go_ret
  exact ⟨rfl, nq, rfl⟩

set_option maxHeartbeats 400000 in
theorem goingOn_no (bt be bx len cap : Nat) (w : World) (ht : Vals w bt be len cap) :
    Calls Yba.prog 10 #[.pointer (some ⟨bt, 0, none⟩), .pointer (some ⟨bx, 0, none⟩)] w fun e w' => e = .returned (.pointer none) ∧ w = w' := by
  have t := tbnil_39
  go_enter Yba.func10, Yba.ntmps10
  go_wp2_with (go_at_call 7; refine (packed_vals ht).mono ?_; rintro e w' ⟨rfl, rfl⟩)
  go_ret
  exact ⟨rfl, rfl⟩

end Go.Proofs.Ybulkauak

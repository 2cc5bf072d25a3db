import Derived.Test.YbulkaubmNode
namespace Go.Proofs.Ybulkaubm
open Go.RowKit

def leaseOf (et : Nat) : Nat := et / 11 * 10 + et % 11 * 10 / 11
def mwOf (et : Nat) : Nat := if 1 < et / 8 then et / 8 else 1

theorem ret_int {k : IntKind} {a b : Int} (h : a = b) : Ending.returned (.int k a) = .returned (.int k b) := by rw [h]

set_option maxHeartbeats 400000 in
theorem lease_any (et : Nat) (w : World) (h : et ≤ 2000000) :
    Calls Yba.prog 13 #[.int .i64 et] w fun e w' => e = .returned (.int .i64 (leaseOf et : Nat)) ∧ w = w' := by
  have h0 : (0 : Int) ≤ (et : Int) := by omega
  go_enter Yba.func13, Yba.ntmps13
  go_wp2
  go_ret
  exact ⟨ret_int (by unfold leaseOf; simp), rfl⟩

set_option maxHeartbeats 400000 in
theorem et_any (r : Int) (et : Nat) (w : World) (h : 0 ≤ r) (h1 : r < 4294967296) (HE : Hid ((et : Int) = r % 1000000 + 8)) :
    Calls Yba.prog 7 #[.int .u32 r] w fun e w' => e = .returned (.int .i64 et) ∧ w = w' := by
  go_enter Yba.func7, Yba.ntmps7
  go_wp2
  go_ret
  exact ⟨ret_int (by rw [HE.out]), rfl⟩

set_option maxHeartbeats 400000 in
theorem wait_any (et vv : Nat) (v : Int) (w : World) (h : et ≤ 2000000) (hv : 0 ≤ v) (hv1 : v < 4294967296) (HV : Hid (v % ((mwOf et : Nat) : Int) = vv)) :
    Calls Yba.prog 8 #[.int .i64 et, .int .u32 v] w fun e w' => e = .returned (.int .i64 vv) ∧ w = w' := by
  by_cases hc : 1 < et / 8
  · have hc' : (1 : Int) < (et : Int) / 8 := by omega
    have HE : Hid (v % ((et : Int) / 8) = vv) := by
      have := HV.out
      rw [mwOf, if_pos hc, Int.natCast_ediv] at this
      exact this
    clear hc
    go_enter Yba.func8, Yba.ntmps8
    go_wp2
    go_ret
    exact ⟨ret_int HE.out, rfl⟩
  · have hc' : (et : Int) / 8 ≤ 1 := by omega
    have HE : Hid (vv = 0) := by
      have := HV.out
      rw [mwOf, if_neg hc] at this
      show vv = 0
      omega
    clear hc
    by_cases h8 : (et : Int) / 8 < 1
    · go_enter Yba.func8, Yba.ntmps8
      go_wp2
      go_ret
      exact ⟨ret_int (by rw [HE.out]; omega), rfl⟩
    · go_enter Yba.func8, Yba.ntmps8
      go_wp2
      go_ret
      exact ⟨ret_int (by rw [HE.out, show (et : Int) / 8 = 1 by omega]; omega), rfl⟩

/-- The eight names. -/
def names : List ByteArray := [⟨#[97]⟩, ⟨#[98]⟩, ⟨#[99]⟩, ⟨#[100]⟩, ⟨#[101]⟩, ⟨#[102]⟩, ⟨#[103]⟩, ⟨#[104]⟩]

set_option maxHeartbeats 400000 in
theorem ids_any (w : World) :
    Calls Yba.prog 6 #[] w fun e w' => e = .returned (.slice (some ⟨w.heap.size, 0, none⟩) 8 8) ∧ w.alloc (.cells (names.map Value.string).toArray 9) = w' := by
  go_enter Yba.func6, Yba.ntmps6
  go_wp2
  go_ret
  exact ⟨rfl, rfl⟩

end Go.Proofs.Ybulkaubm

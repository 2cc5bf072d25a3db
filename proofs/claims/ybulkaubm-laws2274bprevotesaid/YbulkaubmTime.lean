import Derived.Test.YbulkaubmRows
import Derived.Test.YbulkaubmMem
import Derived.WalkLawsBesides
import Derived.BigQuiet
import Derived.RegionTactic
namespace Go.Proofs.Ybulkaubm
open Go.RowKit

/-! ### Bits of the wall word: no monotonic clock, fewer than a billion nanoseconds -/
theorem and30 (x : Int) (h0 : 0 ≤ x) (h1 : x < 1000000000) : bits .and .u64 x 1073741823 = x := by
  rw [u64_and x _ h0 (by omega) (by omega) (by omega)]
  have : x.toNat &&& 1073741823 = x.toNat % 2 ^ 30 := Nat.and_two_pow_sub_one_eq_mod x.toNat 30
  show ((x.toNat &&& 1073741823 : Nat) : Int) = x
  rw [this, Nat.mod_eq_of_lt (by omega)]
  omega
theorem mono0 (x : Int) (h0 : 0 ≤ x) (h1 : x < 1000000000) : bits .and .u64 x 9223372036854775808 = 0 := by
  rw [u64_and x _ h0 (by omega) (by omega) (by omega)]
  have : x.toNat &&& 2 ^ 63 = x.toNat / 2 ^ 63 % 2 * 2 ^ 63 := nat_bit 63 x.toNat
  show ((x.toNat &&& 9223372036854775808 : Nat) : Int) = 0
  rw [show (9223372036854775808 : Nat) = 2 ^ 63 from rfl, this, Nat.div_eq_of_lt (by omega)]
  rfl
theorem andNot30 (x : Int) (h0 : 0 ≤ x) (h1 : x < 1000000000) : bits .andNot .u64 x 1073741823 = 0 := by
  rw [u64_andNot x _ h0 (by omega) (by omega) (by omega)]
  show ((x.toNat &&& (18446744073709551615 - 1073741823) : Nat) : Int) = 0
  have h : x.toNat &&& (17179869183 <<< 30) = 0 := by
    apply Nat.eq_of_testBit_eq
    intro i
    rw [Nat.testBit_and, Nat.testBit_shiftLeft, Nat.zero_testBit]
    by_cases hi : 30 ≤ i
    · rw [Nat.testBit_lt_two_pow (Nat.lt_of_lt_of_le (show x.toNat < 2 ^ 30 by omega) (Nat.pow_le_pow_right (by omega) hi))]
      rfl
    · simp [hi]
  exact congrArg Nat.cast h
theorem or0 (x : Int) (h0 : 0 ≤ x) (h1 : x < 1000000000) : bits .or .u64 0 x = x := by
  rw [u64_or 0 x (by omega) (by omega) h0 (by omega)]
  simp
  omega

set_option maxHeartbeats 400000 in
theorem nsec_any (b : Nat) (x : Int) (w : World) (h0 : 0 ≤ x) (h1 : x < 1000000000) (hc : w.cell? ⟨b, 0, none⟩ = some (.int .u64 x)) :
    Calls Yba.prog 15 #[.pointer (some ⟨b, 0, none⟩)] w fun e w' => e = .returned (.int .i32 x) ∧ w = w' := by
  have hb := and30 x h0 h1
  go_enter Yba.func15, Yba.ntmps15
  go_wp2
  go_ret
  exact ⟨rfl, rfl⟩

set_option maxHeartbeats 400000 in
theorem addSec_any (b : Nat) (x s d : Int) (w : World) (h0 : 0 ≤ x) (h1 : x < 1000000000) (hs : 0 ≤ s) (hs1 : s < 1000000000000) (hd : 0 ≤ d) (hd1 : d < 1000000000000)
    (hc : w.cell? ⟨b, 0, none⟩ = some (.int .u64 x)) (hc1 : w.cell? ⟨b, 1, none⟩ = some (.int .i64 s)) (hf : w.frozen? ⟨b, 1, none⟩ = false) :
    Calls Yba.prog 16 #[.pointer (some ⟨b, 0, none⟩), .int .i64 d] w fun e w' => e = .returned (.tuple #[]) ∧ w.setCell ⟨b, 1, none⟩ (.int .i64 (s + d)) = w' := by
  have hm := mono0 x h0 h1
  by_cases hd0 : 0 < d
  · go_enter Yba.func16, Yba.ntmps16
    go_wp2
    go_end0
    exact ⟨rfl, rfl⟩
  · obtain rfl : d = 0 := by omega
    go_enter Yba.func16, Yba.ntmps16
    go_wp2
    go_end0
    exact ⟨rfl, by simp⟩

/-- A time without a monotonic clock, n nanoseconds behind the zero Time. -/
def tmv (x s : Int) : Value := .agg #[.int .u64 x, .int .i64 s, .pointer none]
def tm (n : Nat) : Value := tmv (n % 1000000000 : Nat) (n / 1000000000 : Nat)

theorem ret_eq {a b : Value} (h : a = b) : Ending.returned a = .returned b := by rw [h]
theorem tmv_eq {x y s t : Int} (h : x = y) (k : s = t) : tmv x s = tmv y t := by rw [h, k]

set_option maxHeartbeats 400000 in
theorem add_core (x s d : Int) (w : World) (h0 : 0 ≤ x) (h1 : x < 1000000000) (hs : 0 ≤ s) (hs1 : s < 500000000000) (hd : 0 ≤ d) (hd1 : d < 1000000000000000000) :
    Calls Yba.prog 9 #[.agg #[.int .u64 x, .int .i64 s, .pointer none], .int .i64 d] w fun e w' => e = .returned (tmv ((x + d % 1000000000) % 1000000000) (s + (x + d) / 1000000000)) ∧ Turn (fun _ => False) w w' := by
  by_cases hc : x + d % 1000000000 < 1000000000
  · have hm := mono0 (x + d % 1000000000) (by omega) hc
    have ha := and30 x h0 h1
    have hn := andNot30 x h0 h1
    have ho := or0 (x + d % 1000000000) (by omega) hc
    go_enter Yba.func9, Yba.ntmps9
    go_wp2_with fail
    refine (nsec_any w.heap.size x _ h0 h1 (by simp)).mono ?_
    rintro e w' ⟨rfl, rfl⟩
    go_wp2_with fail
    refine (addSec_any w.heap.size (x + d % 1000000000) s (d / 1000000000) _ (by omega) hc hs (by omega) (by omega) (by omega) (by simp) (by simp) (by simp)).mono ?_
    rintro e w' ⟨rfl, rfl⟩
    go_wp2_with fail
    refine bodyPost_ret (v := tmv (x + d % 1000000000) (s + d / 1000000000)) (by simp [results, Yba.results9, go_sem, tmv]) rfl ⟨ret_eq (tmv_eq (by omega) (by omega)), ?_⟩
    exact ((Turn.refl _ w).alloc _).alloc _
  · have hm := mono0 (x + d % 1000000000 - 1000000000) (by omega) (by omega)
    have ha := and30 x h0 h1
    have hn := andNot30 x h0 h1
    have ho := or0 (x + d % 1000000000 - 1000000000) (by omega) (by omega)
    go_enter Yba.func9, Yba.ntmps9
    go_wp2_with fail
    refine (nsec_any w.heap.size x _ h0 h1 (by simp)).mono ?_
    rintro e w' ⟨rfl, rfl⟩
    go_wp2_with fail
    refine (addSec_any w.heap.size (x + d % 1000000000 - 1000000000) s (d / 1000000000 + 1) _ (by omega) (by omega) hs (by omega) (by omega) (by omega) (by simp) (by simp) (by simp)).mono ?_
    rintro e w' ⟨rfl, rfl⟩
    go_wp2_with fail
    refine bodyPost_ret (v := tmv (x + d % 1000000000 - 1000000000) (s + (d / 1000000000 + 1))) (by simp [results, Yba.results9, go_sem, tmv]) rfl ⟨ret_eq (tmv_eq (by omega) (by omega)), ?_⟩
    exact ((Turn.refl _ w).alloc _).alloc _

/-- (x, s) is the time n nanoseconds behind the zero Time. -/
def IsTm (x s : Int) (n : Nat) : Prop := x = (n % 1000000000 : Nat) ∧ s = (n / 1000000000 : Nat) ∧ n < 1000000000000000

theorem add_any (x s : Int) (n d : Nat) (w : World) (h : IsTm x s n) (hd : n + d < 1000000000000000) :
    Calls Yba.prog 9 #[.agg #[.int .u64 x, .int .i64 s, .pointer none], .int .i64 d] w fun e w' => ∃ x' s', e = .returned (.agg #[.int .u64 x', .int .i64 s', .pointer none]) ∧ IsTm x' s' (n + d) ∧ Turn (fun _ => False) w w' := by
  obtain ⟨h1, h2, h3⟩ := h
  refine (add_core x s d w (by omega) (by omega) (by omega) (by omega) (by omega) (by omega)).mono fun e w' ⟨he, ht⟩ => ⟨_, _, he, ⟨by omega, by omega, hd⟩, ht⟩

end Go.Proofs.Ybulkaubm

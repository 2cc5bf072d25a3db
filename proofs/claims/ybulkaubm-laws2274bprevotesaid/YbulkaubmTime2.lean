import Derived.Test.YbulkaubmTime
namespace Go.Proofs.Ybulkaubm
open Go.RowKit

theorem and2 (x y : Int) (h0 : 0 ≤ x) (h1 : x < 1000000000) (k0 : 0 ≤ y) (k1 : y < 1000000000) : bits .and .u64 (bits .and .u64 x y) 9223372036854775808 = 0 := by
  have e := u64_and x y h0 (by omega) k0 (by omega)
  have l : x.toNat &&& y.toNat ≤ x.toNat := Nat.and_le_left
  rw [e]
  exact mono0 _ (by omega) (by omega)

set_option maxHeartbeats 400000 in
theorem sec_any (b : Nat) (x s : Int) (w : World) (h0 : 0 ≤ x) (h1 : x < 1000000000) (hc : w.cell? ⟨b, 0, none⟩ = some (.int .u64 x)) (hc1 : w.cell? ⟨b, 1, none⟩ = some (.int .i64 s)) :
    Calls Yba.prog 20 #[.pointer (some ⟨b, 0, none⟩)] w fun e w' => e = .returned (.int .i64 s) ∧ w = w' := by
  have hb := mono0 x h0 h1
  go_enter Yba.func20, Yba.ntmps20
  go_wp2
  go_ret
  exact ⟨rfl, rfl⟩

set_option maxHeartbeats 400000 in
theorem before_core (x s y t : Int) (b : Bool) (w : World) (h0 : 0 ≤ x) (h1 : x < 1000000000) (k0 : 0 ≤ y) (k1 : y < 1000000000) (hb : decide (s < t ∨ s = t ∧ x < y) = b) :
    Calls Yba.prog 21 #[.agg #[.int .u64 x, .int .i64 s, .pointer none], .agg #[.int .u64 y, .int .i64 t, .pointer none]] w fun e w' => e = .returned (.bool b) ∧ Turn (fun _ => False) w w' := by
  have hm := and2 x y h0 h1 k0 k1
  have HB : Hid (decide (s < t ∨ s = t ∧ x < y) = b) := hb
  clear hb
  by_cases hst : s < t
  · go_enter Yba.func21, Yba.ntmps21
    go_wp2_with fail
    refine (sec_any w.heap.size x s _ h0 h1 (by simp) (by simp)).mono ?_
    rintro e w' ⟨rfl, rfl⟩
    go_wp2_with fail
    refine (sec_any (w.heap.size + 1) y t _ k0 k1 (by simp) (by simp)).mono ?_
    rintro e w' ⟨rfl, rfl⟩
    go_wp2_with fail
    go_ret
    refine ⟨ret_eq ?_, ((Turn.refl _ w).alloc _).alloc _⟩
    have := HB.out
    simp [hst] at this
    subst this; rfl
  · by_cases hse : s = t
    · subst hse
      have hsn : decide (s < s) = false := by simp
      go_enter Yba.func21, Yba.ntmps21
      go_wp2_with fail
      refine (sec_any w.heap.size x s _ h0 h1 (by simp) (by simp)).mono ?_
      rintro e w' ⟨rfl, rfl⟩
      go_wp2_with fail
      refine (sec_any (w.heap.size + 1) y s _ k0 k1 (by simp) (by simp)).mono ?_
      rintro e w' ⟨rfl, rfl⟩
      go_wp2_with fail
      refine (nsec_any w.heap.size x _ h0 h1 (by simp)).mono ?_
      rintro e w' ⟨rfl, rfl⟩
      go_wp2_with fail
      refine (nsec_any (w.heap.size + 1) y _ k0 k1 (by simp)).mono ?_
      rintro e w' ⟨rfl, rfl⟩
      go_wp2_with fail
      go_ret
      refine ⟨ret_eq ?_, ((Turn.refl _ w).alloc _).alloc _⟩
      have := HB.out
      simp at this
      subst this; rfl
    · have hd : decide (s < t) = false := by simp; omega
      have he : (s == t) = false := by simp; omega
      go_enter Yba.func21, Yba.ntmps21
      go_wp2_with fail
      refine (sec_any w.heap.size x s _ h0 h1 (by simp) (by simp)).mono ?_
      rintro e w' ⟨rfl, rfl⟩
      go_wp2_with fail
      refine (sec_any (w.heap.size + 1) y t _ k0 k1 (by simp) (by simp)).mono ?_
      rintro e w' ⟨rfl, rfl⟩
      go_wp2_with fail
      go_ret
      refine ⟨ret_eq ?_, ((Turn.refl _ w).alloc _).alloc _⟩
      have := HB.out
      rw [decide_eq_false (by omega)] at this
      subst this; rfl

set_option maxHeartbeats 400000 in
theorem after_core (x s y t : Int) (b : Bool) (w : World) (h0 : 0 ≤ x) (h1 : x < 1000000000) (k0 : 0 ≤ y) (k1 : y < 1000000000) (hb : decide (t < s ∨ s = t ∧ y < x) = b) :
    Calls Yba.prog 41 #[.agg #[.int .u64 x, .int .i64 s, .pointer none], .agg #[.int .u64 y, .int .i64 t, .pointer none]] w fun e w' => e = .returned (.bool b) ∧ Turn (fun _ => False) w w' := by
  have hm := and2 x y h0 h1 k0 k1
  have HB : Hid (decide (t < s ∨ s = t ∧ y < x) = b) := hb
  clear hb
  by_cases hst : t < s
  · go_enter Yba.func41, Yba.ntmps41
    go_wp2_with fail
    refine (sec_any w.heap.size x s _ h0 h1 (by simp) (by simp)).mono ?_
    rintro e w' ⟨rfl, rfl⟩
    go_wp2_with fail
    refine (sec_any (w.heap.size + 1) y t _ k0 k1 (by simp) (by simp)).mono ?_
    rintro e w' ⟨rfl, rfl⟩
    go_wp2_with fail
    go_ret
    refine ⟨ret_eq ?_, ((Turn.refl _ w).alloc _).alloc _⟩
    have := HB.out
    simp [hst] at this
    subst this; rfl
  · by_cases hse : s = t
    · subst hse
      have hsn : decide (s < s) = false := by simp
      go_enter Yba.func41, Yba.ntmps41
      go_wp2_with fail
      refine (sec_any w.heap.size x s _ h0 h1 (by simp) (by simp)).mono ?_
      rintro e w' ⟨rfl, rfl⟩
      go_wp2_with fail
      refine (sec_any (w.heap.size + 1) y s _ k0 k1 (by simp) (by simp)).mono ?_
      rintro e w' ⟨rfl, rfl⟩
      go_wp2_with fail
      refine (nsec_any w.heap.size x _ h0 h1 (by simp)).mono ?_
      rintro e w' ⟨rfl, rfl⟩
      go_wp2_with fail
      refine (nsec_any (w.heap.size + 1) y _ k0 k1 (by simp)).mono ?_
      rintro e w' ⟨rfl, rfl⟩
      go_wp2_with fail
      go_ret
      refine ⟨ret_eq ?_, ((Turn.refl _ w).alloc _).alloc _⟩
      have := HB.out
      simp at this
      subst this; rfl
    · have hd : decide (t < s) = false := by simp; omega
      have he : (s == t) = false := by simp; omega
      go_enter Yba.func41, Yba.ntmps41
      go_wp2_with fail
      refine (sec_any w.heap.size x s _ h0 h1 (by simp) (by simp)).mono ?_
      rintro e w' ⟨rfl, rfl⟩
      go_wp2_with fail
      refine (sec_any (w.heap.size + 1) y t _ k0 k1 (by simp) (by simp)).mono ?_
      rintro e w' ⟨rfl, rfl⟩
      go_wp2_with fail
      go_ret
      refine ⟨ret_eq ?_, ((Turn.refl _ w).alloc _).alloc _⟩
      have := HB.out
      rw [decide_eq_false (by omega)] at this
      subst this; rfl

set_option maxHeartbeats 400000 in
theorem equal_core (x s y t : Int) (b : Bool) (w : World) (h0 : 0 ≤ x) (h1 : x < 1000000000) (k0 : 0 ≤ y) (k1 : y < 1000000000) (hb : decide (s = t ∧ x = y) = b) :
    Calls Yba.prog 11 #[.agg #[.int .u64 x, .int .i64 s, .pointer none], .agg #[.int .u64 y, .int .i64 t, .pointer none]] w fun e w' => e = .returned (.bool b) ∧ Turn (fun _ => False) w w' := by
  have hm := and2 x y h0 h1 k0 k1
  have HB : Hid (decide (s = t ∧ x = y) = b) := hb
  clear hb
  by_cases hse : s = t
  · subst hse
    go_enter Yba.func11, Yba.ntmps11
    go_wp2_with fail
    refine (sec_any w.heap.size x s _ h0 h1 (by simp) (by simp)).mono ?_
    rintro e w' ⟨rfl, rfl⟩
    go_wp2_with fail
    refine (sec_any (w.heap.size + 1) y s _ k0 k1 (by simp) (by simp)).mono ?_
    rintro e w' ⟨rfl, rfl⟩
    go_wp2_with fail
    refine (nsec_any w.heap.size x _ h0 h1 (by simp)).mono ?_
    rintro e w' ⟨rfl, rfl⟩
    go_wp2_with fail
    refine (nsec_any (w.heap.size + 1) y _ k0 k1 (by simp)).mono ?_
    rintro e w' ⟨rfl, rfl⟩
    go_wp2_with fail
    go_ret
    refine ⟨ret_eq ?_, ((Turn.refl _ w).alloc _).alloc _⟩
    have := HB.out
    simp at this
    subst this; rfl
  · have he : (s == t) = false := by simp; omega
    go_enter Yba.func11, Yba.ntmps11
    go_wp2_with fail
    refine (sec_any w.heap.size x s _ h0 h1 (by simp) (by simp)).mono ?_
    rintro e w' ⟨rfl, rfl⟩
    go_wp2_with fail
    refine (sec_any (w.heap.size + 1) y t _ k0 k1 (by simp) (by simp)).mono ?_
    rintro e w' ⟨rfl, rfl⟩
    go_wp2_with fail
    go_ret
    refine ⟨ret_eq ?_, ((Turn.refl _ w).alloc _).alloc _⟩
    have := HB.out
    rw [decide_eq_false (by omega)] at this
    subst this; rfl

/-! ### The same over nanoseconds -/
theorem before_any (x s y t : Int) (n m : Nat) (b : Bool) (w : World) (h : IsTm x s n) (k : IsTm y t m) (hb : decide (n < m) = b) :
    Calls Yba.prog 21 #[.agg #[.int .u64 x, .int .i64 s, .pointer none], .agg #[.int .u64 y, .int .i64 t, .pointer none]] w fun e w' => e = .returned (.bool b) ∧ Turn (fun _ => False) w w' := by
  obtain ⟨h1, h2, h3⟩ := h
  obtain ⟨k1, k2, k3⟩ := k
  exact before_core x s y t b w (by omega) (by omega) (by omega) (by omega) (by rw [← hb]; exact decide_eq_decide.2 (by omega))
theorem after_any (x s y t : Int) (n m : Nat) (b : Bool) (w : World) (h : IsTm x s n) (k : IsTm y t m) (hb : decide (m < n) = b) :
    Calls Yba.prog 41 #[.agg #[.int .u64 x, .int .i64 s, .pointer none], .agg #[.int .u64 y, .int .i64 t, .pointer none]] w fun e w' => e = .returned (.bool b) ∧ Turn (fun _ => False) w w' := by
  obtain ⟨h1, h2, h3⟩ := h
  obtain ⟨k1, k2, k3⟩ := k
  exact after_core x s y t b w (by omega) (by omega) (by omega) (by omega) (by rw [← hb]; exact decide_eq_decide.2 (by omega))
theorem equal_any (x s y t : Int) (n m : Nat) (b : Bool) (w : World) (h : IsTm x s n) (k : IsTm y t m) (hb : decide (n = m) = b) :
    Calls Yba.prog 11 #[.agg #[.int .u64 x, .int .i64 s, .pointer none], .agg #[.int .u64 y, .int .i64 t, .pointer none]] w fun e w' => e = .returned (.bool b) ∧ Turn (fun _ => False) w w' := by
  obtain ⟨h1, h2, h3⟩ := h
  obtain ⟨k1, k2, k3⟩ := k
  exact equal_core x s y t b w (by omega) (by omega) (by omega) (by omega) (by rw [← hb]; exact decide_eq_decide.2 (by omega))

set_option maxHeartbeats 400000 in
theorem isZero_any (x s : Int) (n : Nat) (b : Bool) (w : World) (h : IsTm x s n) (hb : decide (n = 0) = b) :
    Calls Yba.prog 33 #[.agg #[.int .u64 x, .int .i64 s, .pointer none]] w fun e w' => e = .returned (.bool b) ∧ Turn (fun _ => False) w w' := by
  obtain ⟨h1, h2, h3⟩ := h
  have HB : Hid (decide (n = 0) = b) := hb
  have HX : Hid (x = (n % 1000000000 : Nat) ∧ s = (n / 1000000000 : Nat)) := ⟨h1, h2⟩
  clear hb h1 h2 h3
  by_cases hx : x = 0
  · have hx' : (x == 0) = true := by simp [hx]
    by_cases hs : s = 0
    · have hs' : (s == 0) = true := by simp [hs]
      have HN : Hid (x = 0 ∧ s = 0) := ⟨hx, hs⟩
      clear hx hs
      go_enter Yba.func33, Yba.ntmps33
      go_wp2_with fail
      go_ret
      refine ⟨ret_eq ?_, (Turn.refl _ w).alloc _⟩
      have := HB.out; have h1 := HN.out; have h2 := HX.out
      rw [decide_eq_true (by omega)] at this
      subst this; rfl
    · have hs' : (s == 0) = false := by simp [hs]
      have HN : Hid (¬ s = 0) := hs
      clear hx hs
      go_enter Yba.func33, Yba.ntmps33
      go_wp2_with fail
      go_ret
      refine ⟨ret_eq ?_, (Turn.refl _ w).alloc _⟩
      have := HB.out; have h1 := HN.out; have h2 := HX.out
      rw [decide_eq_false (by omega)] at this
      subst this; rfl
  · have hx' : (x == 0) = false := by simp [hx]
    have HN : Hid (¬ x = 0) := hx
    clear hx
    go_enter Yba.func33, Yba.ntmps33
    go_wp2_with fail
    go_ret
    refine ⟨ret_eq ?_, (Turn.refl _ w).alloc _⟩
    have := HB.out; have h1 := HN.out; have h2 := HX.out
    rw [decide_eq_false (by omega)] at this
    subst this; rfl

end Go.Proofs.Ybulkaubm

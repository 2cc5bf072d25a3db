import Derived.Test.YbulkaudcRows
import Derived.WalkKit
import Derived.WalkSpells
import Derived.WalkLawsBesides
import Derived.BigQuiet
namespace Go.Proofs.Ybulkaudc
open Go.RowKit

theorem ret_int {k : IntKind} {a b : Int} (h : a = b) : Ending.returned (.int k a) = .returned (.int k b) := by rw [h]

/-- The day: the floor of us over the microseconds of a day. -/
def day (us : Int) : Int := us / 86400000000

theorem tdiv_neg' (us : Int) (h : us < 0) : us.tdiv 86400000000 = -((-us) / 86400000000) := by
  have e : us = -(-us) := by omega
  rw [e, Int.neg_tdiv, Int.tdiv_eq_ediv_of_nonneg (by omega)]
  simp
theorem tdiv_nn (us : Int) (h : 0 ≤ us) : us.tdiv 86400000000 = us / 86400000000 := Int.tdiv_eq_ediv_of_nonneg h
theorem tmod_at (us : Int) : us.tmod 86400000000 = us - 86400000000 * us.tdiv 86400000000 := Int.tmod_def us 86400000000

theorem day_neg (us : Int) (h0 : -9223372036854775808 ≤ us) (h : us.tmod 86400000000 < 0) : wrap64 (us.tdiv 86400000000 - 1) = day us := by
  rw [tmod_at] at h
  by_cases hn : us < 0
  · rw [tdiv_neg' us hn] at h ⊢
    unfold wrap64 day
    omega
  · rw [tdiv_nn us (by omega)] at h
    omega
theorem day_pos (us : Int) (h : 0 ≤ us.tmod 86400000000) : us.tdiv 86400000000 = day us := by
  rw [tmod_at] at h
  by_cases hn : us < 0
  · rw [tdiv_neg' us hn] at h ⊢
    unfold day
    omega
  · exact tdiv_nn us (by omega)

set_option maxHeartbeats 400000 in
theorem floorDiv_day (us : Int) (w : World) (h0 : -9223372036854775808 ≤ us) (h1 : us ≤ 9223372036854775807) :
    Calls Yba.prog 6 #[.int .i64 us, .int .i64 86400000000] w fun e w' => e = .returned (.int .i64 (day us)) ∧ w = w' := by
  go_enter Yba.func6, Yba.ntmps6
  go_wp2
  all_goals go_ret
  · exact ⟨ret_int (day_neg us h0 ‹_›), rfl⟩
  · exact ⟨ret_int (day_pos us ‹_›), rfl⟩

/-- The time of day, as split wraps it. -/
def clock (us : Int) : Int := us - day us * 86400000000
theorem clock_bd (us : Int) : 0 ≤ clock us ∧ clock us < 86400000000 := by unfold clock day; omega
theorem clock_wrap (us : Int) : wrap64 (us - wrap64 (day us * 86400000000)) = clock us := by
  have := clock_bd us
  unfold clock at *
  unfold wrap64
  omega
theorem back (us : Int) (h0 : -9223372036854775808 ≤ us) (h1 : us ≤ 9223372036854775807) : wrap64 (wrap64 (day us * 86400000000) + clock us) = us := by
  unfold clock
  unfold wrap64
  omega

set_option maxHeartbeats 400000 in
theorem split_any (us sc : Int) (w : World) (h0 : -9223372036854775808 ≤ us) (h1 : us ≤ 9223372036854775807) :
    Calls Yba.prog 5 #[.agg #[.int .i64 us, .int .i64 sc]] w fun e w' => e = .returned (.tuple #[.int .i64 (day us), .int .i64 (clock us)]) ∧ ∃ n, w' = (w.alloc (.cells #[.int .i64 us, .int .i64 sc] 23)).drewN n := by
  have HC : Hid (wrap64 (us - wrap64 (day us * 86400000000)) = clock us) := clock_wrap us
  go_enter Yba.func5, Yba.ntmps5
  go_wp2_with fail
  refine (floorDiv_day us _ h0 h1).mono ?_
  rintro e w' ⟨rfl, rfl⟩
  go_wp2_with fail
  go_quiet (fail)
  go_wp2_with fail
  go_ret2
  exact ⟨by rw [← HC.out]; rfl, nq, rfl⟩

set_option maxHeartbeats 400000 in
theorem euclid_walk (us sc : Int) (w : World) (h : -9223372036854775808 ≤ us ∧ us ≤ 9223372036854775807) (_hs : -9223372036854775808 ≤ sc ∧ sc ≤ 9223372036854775807) :
    Calls Yba.prog 3 #[.int .i64 us, .int .i64 sc] w fun e w' => e = .returned (.bool true) ∧ Below w.heap.size w w' := by
  have HB : Hid (wrap64 (wrap64 (day us * 86400000000) + clock us) = us) := back us h.1 h.2
  obtain ⟨c0, c1⟩ := clock_bd us
  have hn : (0 : Int) ≤ clock us := c0
  obtain ⟨h0, h1⟩ := h
  obtain ⟨ck, hck⟩ : ∃ ck, clock us = ck := ⟨_, rfl⟩
  obtain ⟨dy, hdy⟩ : ∃ dy, day us = dy := ⟨_, rfl⟩
  have HS := split_any us sc
  rw [hck] at HB c0 c1 hn
  rw [hdy] at HB
  have HE : Hid (clock us = ck ∧ day us = dy) := ⟨hck, hdy⟩
  clear hck hdy
  go_enter Yba.func3, Yba.ntmps3
  go_wp2_with fail
  refine (HS _ h0 h1).mono ?_
  rintro e w' ⟨rfl, nq, rfl⟩
  rw [HE.out.1, HE.out.2]
  clear HS
  go_wp2_with fail
  go_ret
  refine ⟨?_, below_drewN (((Below.refl _ _).alloc (Nat.le_refl _) _).alloc (by simp) _) nq⟩
  show Ending.returned (.bool (wrap64 (wrap64 (dy * 86400000000) + ck) == us)) = _
  rw [HB.out]
  simp

end Go.Proofs.Ybulkaudc

import Derived.Test.YbulkaudqRows
import Derived.WalkKit
import Derived.WalkSpells
import Derived.WalkLawsBesides
import Derived.BigQuiet
namespace Go.Proofs.Ybulkaudq
open Go.RowKit

set_option maxHeartbeats 400000 in
theorem excerpt_short (s : ByteArray) (w : World) (h : s.size ≤ 24) :
    Calls Yba.prog 5 #[.string s] w fun e w' => e = .returned (.string s) ∧ w = w' := by
  go_enter Yba.func5, Yba.ntmps5
  go_wp2
  go_ret
  exact ⟨rfl, rfl⟩

/-- r is the first 24 bytes of s, then three dots. -/
structure Cut (s r : ByteArray) : Prop where
  size : r.size = 27
  byte : ∀ i (h : i < r.size) (k : i < s.size), i < 24 → r[i] = s[i]
  dots : ∀ i (h : i < r.size), 24 ≤ i → r[i] = 46

theorem cut_of (s : ByteArray) (h : 24 < s.size) : Cut s (s.extract 0 24 ++ ⟨#[46, 46, 46]⟩) := by
  have e : (s.extract 0 24).size = 24 := by rw [ByteArray.size_extract]; omega
  refine ⟨by rw [ByteArray.size_append, e]; rfl, fun i h1 h2 h3 => ?_, fun i h1 h3 => ?_⟩
  · rw [ByteArray.getElem_append_left (by omega), ByteArray.getElem_extract]
    simp
  · have h4 : i < 27 := by rw [ByteArray.size_append, e] at h1; exact h1
    rw [ByteArray.getElem_append_right (by omega)]
    rcases (show i = 24 ∨ i = 25 ∨ i = 26 by omega) with rfl | rfl | rfl <;> simp [e] <;> rfl

set_option maxHeartbeats 400000 in
theorem excerpt_long (s : ByteArray) (w : World) (h : 24 < s.size) (h1 : s.size ≤ 2000000) :
    Calls Yba.prog 5 #[.string s] w fun e w' => ∃ r, e = .returned (.string r) ∧ Cut s r ∧ w = w' := by
  go_enter Yba.func5, Yba.ntmps5
  go_wp2
  go_ret
  exact ⟨_, rfl, cut_of s h, rfl⟩

theorem idx (s : ByteArray) (k : Nat) (h : k < s.size) (w : World) : (Instr.index 9 (.string s) (.int .i64 k)).run Yba.prog w = .ok (.int .u8 (s[k].toNat : Int)) w := by
  rw [run_index_string (P := Yba.prog) (w := w) 9 s .i64 k Yba.underlying9]
  have h1 : (0 : Int) ≤ (k : Int) ∧ (k : Int) < (s.size : Int) := by omega
  simp [h]

set_option maxHeartbeats 400000 in
theorem exact_long (s : ByteArray) (w : World) (h : 24 < s.size) (h1 : s.size ≤ 1048576) :
    Calls Yba.prog 3 #[.string s] w fun e w' => e = .returned (.bool true) ∧ ∃ n, w' = w.drewN n := by
  go_enter Yba.func3, Yba.ntmps3
  go_wp2_with fail
  refine (excerpt_long s w h (by omega)).mono ?_
  rintro e w' ⟨r, rfl, hc, rfl⟩
  have hs1 : r.size ≤ 27 := by have := hc.size; omega
  have hs2 : 27 ≤ r.size := by have := hc.size; omega
  have hs3 : ((r.size : Int) != 27) = false := by simp; omega
  go_wp2_with fail
  go_loopw [4] (fun i wr => ∃ k n : Nat, k ≤ 24 ∧ i = .int .i64 k ∧ wr = w.drewN n) (fun i _ => 24 - (intOf i).toNat)
  case atStart => exact ⟨0, 0, by omega, rfl, rfl⟩
  case round =>
    obtain ⟨k, n, hk, rfl, rfl⟩ := hrel
    by_cases hlt : k < 24
    · have hlt' : (k : Int) < 24 := by omega
      have hkr : k < r.size := by omega
      have hks : k < s.size := by omega
      have hkr' : (k : Int) < (r.size : Int) := by omega
      have hks' : (k : Int) < (s.size : Int) := by omega
      obtain ⟨b, hb⟩ : ∃ b : Int, (s[k].toNat : Int) = b := ⟨_, rfl⟩
      have i1 : ∀ w, (Instr.index 9 (.string r) (.int .i64 k)).run Yba.prog w = .ok (.int .u8 b) w := fun w => by rw [idx r k hkr w, hc.byte k hkr hks hlt, hb]
      have i2 : ∀ w, (Instr.index 9 (.string s) (.int .i64 k)).run Yba.prog w = .ok (.int .u8 b) w := fun w => by rw [idx s k hks w, hb]
      clear hb
      go_wp2_with fail
      go_quiet (fail)
      go_wp2_with fail
      go_roundw
      case rel => exact ⟨k + 1, n + nq, by omega, by go_num, by simp⟩
      case measure => simp [intOf]; omega
    · have hd := hc.dots
      have j1 : ∀ w, (Instr.index 9 (.string r) (.int .i64 24)).run Yba.prog w = .ok (.int .u8 46) w := fun w => by have := idx r 24 (by omega) w; rw [hd 24 (by omega) (by omega)] at this; exact this
      have j2 : ∀ w, (Instr.index 9 (.string r) (.int .i64 25)).run Yba.prog w = .ok (.int .u8 46) w := fun w => by have := idx r 25 (by omega) w; rw [hd 25 (by omega) (by omega)] at this; exact this
      have j3 : ∀ w, (Instr.index 9 (.string r) (.int .i64 26)).run Yba.prog w = .ok (.int .u8 46) w := fun w => by have := idx r 26 (by omega) w; rw [hd 26 (by omega) (by omega)] at this; exact this
      clear hd
      go_wp2_with fail
      go_ret
      exact ⟨rfl, n, rfl⟩

set_option maxHeartbeats 400000 in
theorem exact_short (s : ByteArray) (w : World) (h : s.size ≤ 24) :
    Calls Yba.prog 3 #[.string s] w fun e w' => e = .returned (.bool true) ∧ w = w' := by
  go_enter Yba.func3, Yba.ntmps3
  go_wp2_with fail
  refine (excerpt_short s w h).mono ?_
  rintro e w' ⟨rfl, rfl⟩
  go_wp2_with fail
  go_ret
  exact ⟨by simp, rfl⟩

set_option maxHeartbeats 400000 in
theorem exact_big (s : ByteArray) (w : World) (h : 1048576 < s.size) (hm : s.size ≤ maxLen) :
    Calls Yba.prog 3 #[.string s] w fun e w' => e = .returned (.bool true) ∧ w = w' := by
  unfold maxLen at hm
  go_enter Yba.func3, Yba.ntmps3
  go_wp2_with fail
  go_ret
  exact ⟨rfl, rfl⟩

theorem grown_drewN (w : World) (n : Nat) : Grown w (w.drewN n) := Grown.refl w

theorem exact_walk (s : ByteArray) (hm : s.size ≤ maxLen) (w : World) :
    Calls Yba.prog 3 #[.string s] w fun e w' => e = .returned (.bool true) ∧ Grown w w' := by
  by_cases h1 : 1048576 < s.size
  · exact (exact_big s w h1 hm).mono fun e w' ⟨he, hw⟩ => ⟨he, hw ▸ Grown.refl w⟩
  · by_cases h2 : s.size ≤ 24
    · exact (exact_short s w h2).mono fun e w' ⟨he, hw⟩ => ⟨he, hw ▸ Grown.refl w⟩
    · exact (exact_long s w (by omega) (by omega)).mono fun e w' ⟨he, n, hw⟩ => ⟨he, hw ▸ grown_drewN w n⟩

end Go.Proofs.Ybulkaudq

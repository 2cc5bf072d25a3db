import Derived.Test.YbulkaudqExcerpt
import Derived.Laws.CopyRow
namespace Go.Proofs.Ybulkaudq
open Go.RowKit

theorem info5 : ∃ i0, Yba.prog.info? 5 = some i0 ∧ i0.zero = some (.int .u8 0) ∧ i0.size = 1 ∧ i0.bytes = 1 := by
  have h : (Yba.prog.info? 5).map (fun i => (i.zero, i.size, i.bytes)) = some (some (.int .u8 0), 1, 1) := by kernel_rfl
  obtain ⟨i0, h1, h2⟩ := Option.map_eq_some_iff.1 h
  simp only [Prod.mk.injEq] at h2
  exact ⟨i0, h1, h2.1, h2.2.1, h2.2.2⟩

/-- Behind j rounds: the row at block B holds n cells, the first j of them c. -/
def Row (w wr : World) (B n j : Nat) (c : Int) : Prop :=
  ∃ cs : Array Value, wr.heap[B]? = some (.cells cs 5 (0, 0)) ∧ cs.size = n ∧ (∀ i, i < j → cs[i]? = some (.int .u8 c)) ∧ Below w.heap.size w wr

theorem row_start {w w1 : World} {n : Nat} {cs : Array Value} {c : Int} (h : w1.ownsRow w.heap.size 5 1 (.slice (some ⟨w.heap.size, 0, none⟩) n n) n cs.toList) (hg : w.grownBy w1 none) : Row w w1 w.heap.size n 0 c := by
  obtain ⟨_, ⟨h0, _⟩ | ⟨g, cap, cur, hv, hge, hh, _, _, hc, _⟩⟩ := h
  · cases h0
  · injection hv with a1 a2 a3
    injection a1 with a1
    injection a1 with a1
    subst a1 a3
    exact ⟨cur, hh, by simpa using hc, fun j hj => by omega, ⟨hg.os, hg.tape, hg.output, hg.size, fun k hk => hg.block k hk (by simp)⟩⟩

theorem row_step {w wr : World} {B n j : Nat} {c : Int} (h : Row w wr B n j c) (hj : j < n) (hB : w.heap.size ≤ B) : Row w (wr.setCell ⟨B, j, none⟩ (.int .u8 c)) B n (j + 1) c := by
  obtain ⟨cs, h1, h2, h3, h4⟩ := h
  refine ⟨cs.setIfInBounds j (.int .u8 c), by simp [World.setCell, Array.getElem?_modify, h1], by simpa using h2, fun i hi => ?_, h4.setCell hB _⟩
  rw [Array.getElem?_setIfInBounds]
  by_cases e : j = i
  · subst e; rw [if_pos rfl, if_pos (by omega)]
  · rw [if_neg e]; exact h3 i (by omega)

theorem row_cell {w wr : World} {B n j i : Nat} {c : Int} (h : Row w wr B n j c) (hi : i < n) : ∃ v, wr.cell? ⟨B, i, none⟩ = some v ∧ wr.frozen? ⟨B, i, none⟩ = false := by
  obtain ⟨cs, h1, h2, h3, h4⟩ := h
  refine ⟨cs[i]'(by omega), ?_, ?_⟩
  · simp [World.cell?, h1, Array.getElem?_eq_getElem (show i < cs.size by omega)]
  · simp [World.frozen?, h1]

theorem row_full {w wr : World} {B n : Nat} {c : Int} (h : Row w wr B n n c) (i : Nat) (hi : i < n) : wr.cell? ⟨B, i, none⟩ = some (.int .u8 c) := by
  obtain ⟨cs, h1, h2, h3, h4⟩ := h
  simp [World.cell?, h1, h3 i hi]

/-- n copies of a byte. -/
def rep (n : Nat) (c : Int) : ByteArray := (List.replicate n c).foldl (fun r n => r.push (UInt8.ofNat n.toNat)) ByteArray.empty

theorem foldl_push_data (ns : List Int) : ∀ s : ByteArray, (ns.foldl (fun r n => r.push (UInt8.ofNat n.toNat)) s).data.toList = s.data.toList ++ ns.map (fun n => UInt8.ofNat n.toNat) := by
  induction ns with
  | nil => intro s; simp
  | cons n ns ih => intro s; rw [List.foldl_cons, ih]; simp [ByteArray.push]
theorem rep_data (n : Nat) (c : Int) : (rep n c).data.toList = List.replicate n (UInt8.ofNat c.toNat) := by
  unfold rep
  rw [foldl_push_data]
  simp [ByteArray.empty, ByteArray.emptyWithCapacity]
  rfl
theorem rep_size (n : Nat) (c : Int) : (rep n c).size = n := by
  have := congrArg List.length (rep_data n c)
  simpa using this
theorem rep_get (n : Nat) (c : Int) (i : Nat) (h : i < (rep n c).size) : (rep n c)[i] = UInt8.ofNat c.toNat := by
  have e : (rep n c)[i] = (rep n c).data.toList[i]'(by simpa using h) := by simp; rfl
  rw [e]
  simp [rep_data]

theorem conv_run {w wr : World} {B n : Nat} {c : Int} (h : Row w wr B n n c) : (convert 25 9 (.slice (some ⟨B, 0, none⟩) n n)).run Yba.prog wr = .ok (.string (rep n c)) wr := by
  rw [run_convert_bytes_string wr 25 9 5 _ _ _ Yba.underlying25 Yba.underlying5 Yba.underlying9]
  refine run_bytesToString wr ⟨B, 0, none⟩ n n (List.replicate n c) ?_
  have h1 := run_loadCells_list (P := Yba.prog) (w := wr) ⟨B, 0, none⟩ ((List.replicate n c).map (Value.int .u8)) (fun j v hv => by
    rw [Addr.add_lit, Nat.zero_add]
    have hj : j < n := by
      have := (List.getElem?_eq_some_iff.1 hv).1
      simpa using this
    simp [hj] at hv
    rw [← hv]; exact row_full h j hj)
  simpa using h1

theorem tail_dots {s r : ByteArray} (h : Cut s r) : (r.extract 24 r.size).toList = [46, 46, 46] := by
  have hz := h.size
  rw [ByteArray.toList_eq]
  apply List.ext_getElem
  · simp [hz]
  · intro i h1 h2
    have h3 : i < 3 := by simpa using h2
    have e : (r.extract 24 r.size).data.toList[i]'h1 = (r.extract 24 r.size)[i]'(by simpa using h1) := by rw [Array.getElem_toList]; rfl
    rw [e, ByteArray.getElem_extract, h.dots (24 + i) (by omega) (by omega)]
    rcases (show i = 0 ∨ i = 1 ∨ i = 2 by omega) with rfl | rfl | rfl <;> rfl

set_option maxHeartbeats 1000000 in
theorem padded_walk (a0 a1 : Int) (w : World) (h0 : 0 ≤ a0 ∧ a0 ≤ 255) (h1 : 0 ≤ a1 ∧ a1 ≤ 65535) :
    Calls Yba.prog 4 #[.int .u8 a0, .int .u16 a1] w fun e w' => e = .returned (.bool true) ∧ Below w.heap.size w w' := by
  obtain ⟨h00, h01⟩ := h0
  obtain ⟨h10, h11⟩ := h1
  obtain ⟨n, hn, hn1⟩ : ∃ n : Nat, a1 % 301 = (n : Int) ∧ n ≤ 300 := ⟨(a1 % 301).toNat, by omega, by omega⟩
  obtain ⟨I0, e1, e2, e3, e4⟩ := info5
  go_enter Yba.func4, Yba.ntmps4
  go_wp2_with (at_make; refine wpList_make_full _ rfl (.tmp 14) (.tmp 14) 25 rfl w.heap.size 5 I0 (.int .u8 0) 1 Yba.underlying25 e1 e2 e3 .i64 .i64 (a1 % 301) (a1 % 301) n rfl rfl hn hn ?b2 ?b3 (Nat.le_refl _) ?hK)
  case b2 => rw [e4]; omega
  case b3 => unfold maxLen; omega
  case hK =>
    intro w1 hown hg
    have HR : Row w w1 w.heap.size n 0 a0 := row_start hown hg
    clear hown hg
    generalize hBe : w.heap.size = B at HR ⊢
    have HB : Hid (w.heap.size = B) := hBe
    clear hBe
    go_wp2_with fail
    go_loopw [7] (fun i wr => ∃ j : Nat, j ≤ n ∧ i = .int .i64 j ∧ Row w wr B n j a0) (fun i _ => n - (intOf i).toNat)
    case atStart => exact ⟨0, Nat.zero_le _, rfl, HR⟩
    case round =>
      clear HR
      obtain ⟨j, hj, rfl, hR⟩ := hrel
      by_cases hlt : j < n
      · have hlt' : (j : Int) < (n : Int) := by omega
        obtain ⟨v, hv, hf⟩ := row_cell hR hlt
        go_wp2_with fail
        go_roundw
        case rel => exact ⟨j + 1, by omega, by go_num, row_step hR hlt (by have := HB.out; omega)⟩
        case measure => simp [intOf]; omega
      · obtain rfl : j = n := by omega
        have hcv := conv_run hR
        have hBel : Hid (Below w.heap.size w wr) := by obtain ⟨_, _, _, _, h⟩ := hR; exact h
        clear hR
        go_wp2_with fail
        by_cases hle : j ≤ 24
        · refine (excerpt_short (rep j a0) wr (by rw [rep_size]; exact hle)).mono ?_
          rintro e w' ⟨rfl, rfl⟩
          clear hcv
          generalize rep j a0 = S
          go_wp2_with fail
          go_ret
          exact ⟨by simp, hBel.out⟩
        · refine (excerpt_long (rep j a0) wr (by rw [rep_size]; omega) (by rw [rep_size]; omega)).mono ?_
          rintro e w' ⟨r, rfl, hc, rfl⟩
          have hs1 : r.size ≤ 27 := by have := hc.size; omega
          have hs2 : 27 ≤ r.size := by have := hc.size; omega
          have hs3 : ((r.size : Int) != 27) = false := by simp; omega
          have HD := tail_dots hc
          have HB2 : Hid (∀ i (h : i < r.size), i < 24 → (r[i].toNat : Int) = a0) := by
            intro i h hi
            have hsz := rep_size j a0
            rw [hc.byte i h (by omega) hi, rep_get]
            simp
            omega
          clear hcv hc
          generalize rep j a0 = S
          go_wp2_with fail
          go_loop [10] (fun i => ∃ k : Nat, k ≤ 24 ∧ i = .int .i64 k) (fun i => 24 - (intOf i).toNat)
          case atStart => exact ⟨0, by omega, rfl⟩
          case round =>
            obtain ⟨k, hk, rfl⟩ := hrel
            by_cases hlt2 : k < 24
            · have hlt3 : (k : Int) < 24 := by omega
              have hkr : k < r.size := by omega
              have i1 : ∀ w, (Instr.index 9 (.string r) (.int .i64 k)).run Yba.prog w = .ok (.int .u8 a0) w := fun w => by rw [idx r k hkr w, HB2.out k hkr hlt2]
              go_wp2_with fail
              go_round
              case rel => exact ⟨k + 1, by omega, by go_num⟩
              case measure => simp [intOf]; omega
            · go_wp2_with fail
              go_ret
              exact ⟨rfl, hBel.out⟩

end Go.Proofs.Ybulkaudq

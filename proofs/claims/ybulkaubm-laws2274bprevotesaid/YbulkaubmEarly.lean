import Derived.Test.YbulkaubmTick0
import Derived.Lib.BufferMore
namespace Go.Proofs.Ybulkaubm
open Go.RowKit
attribute [local go_sem ↓] Go.wp_at_zero Go.wp_at_succ

theorem isTm0 : IsTm 0 0 0 := ⟨rfl, rfl, by omega⟩

/-- One of the first m names. -/
theorem name_cell {w : World} {I i : Nat} (hI : Blk w I (names.map Value.string).toArray 9) (hi : i < 8) : ∃ nm, names[i]? = some nm ∧ w.cell? ⟨I, i, none⟩ = some (.string nm) := by
  have h : i < names.length := hi
  refine ⟨names[i], List.getElem?_eq_getElem h, hI.cell i ?_⟩
  simp [h]

theorem names_take {w : World} {I m : Nat} (hI : Blk w I (names.map Value.string).toArray 9) (i : Nat) (h : i < (names.take m).length) : w.cell? ⟨I, i, none⟩ = some (.string (names.take m)[i]) := by
  have h2 : i < names.length := by simp at h; omega
  refine hI.cell i ?_
  simp [h2]

/-- Two times in memory. -/
def Two (D T : Nat) (dx ds x s : Int) (w' : World) : Prop :=
  w'.cell? ⟨D, 0, none⟩ = some (.int .u64 dx) ∧ w'.cell? ⟨D, 1, none⟩ = some (.int .i64 ds) ∧ w'.cell? ⟨D, 2, none⟩ = some (.pointer none) ∧
  w'.cell? ⟨T, 0, none⟩ = some (.int .u64 x) ∧ w'.cell? ⟨T, 1, none⟩ = some (.int .i64 s) ∧ w'.cell? ⟨T, 2, none⟩ = some (.pointer none)
theorem two {w : World} {D T : Nat} {dx ds x s : Int} (h : Blk w D #[.int .u64 dx, .int .i64 ds, .pointer none] 31) (k : Blk w T #[.int .u64 x, .int .i64 s, .pointer none] 31) : Two D T dx ds x s w := by
  obtain ⟨a0, a1, a2, _, _, _⟩ := h.cells3
  obtain ⟨b0, b1, b2, _, _, _⟩ := k.cells3
  exact ⟨a0, a1, a2, b0, b1, b2⟩

set_option maxHeartbeats 2000000 in
set_option maxRecDepth 100000 in
theorem early_walk (a0 a1 a2 a3 a4 a5 : Int) (w : World) (h0 : 0 ≤ a0 ∧ a0 ≤ 255) (h1 : 0 ≤ a1 ∧ a1 ≤ 255) (h2 : 0 ≤ a2 ∧ a2 < 4294967296) (h3 : 0 ≤ a3 ∧ a3 < 4294967296) (h4 : 0 ≤ a4 ∧ a4 < 4294967296) (h5 : 0 ≤ a5 ∧ a5 < 4294967296) :
    Calls Yba.prog 3 #[.int .u8 a0, .int .u8 a1, .int .u32 a2, .int .u32 a3, .int .u32 a4, .int .u32 a5] w fun e w' => e = .returned (.bool true) ∧ Below w.heap.size w w' := by
  obtain ⟨h00, h01⟩ := h0
  obtain ⟨h10, h11⟩ := h1
  obtain ⟨h20, h21⟩ := h2
  obtain ⟨h30, h31⟩ := h3
  obtain ⟨h40, h41⟩ := h4
  obtain ⟨h50, h51⟩ := h5
  obtain ⟨m, hm, hm1, hm8⟩ : ∃ m : Nat, a0 % 8 + 1 = (m : Int) ∧ 1 ≤ m ∧ m ≤ 8 := ⟨(a0 % 8 + 1).toNat, by omega, by omega, by omega⟩
  obtain ⟨i, hi, him⟩ : ∃ i : Nat, a1 % (m : Int) = (i : Int) ∧ i < m := by
    have e1 := Int.emod_nonneg a1 (show (m : Int) ≠ 0 by omega)
    have e2 := Int.emod_lt_of_pos a1 (show (0 : Int) < m by omega)
    exact ⟨(a1 % (m : Int)).toNat, by omega, by omega⟩
  obtain ⟨et, het, het1, het8⟩ : ∃ et : Nat, (et : Int) = a2 % 1000000 + 8 ∧ et ≤ 2000000 ∧ 8 ≤ et := ⟨(a2 % 1000000 + 8).toNat, by omega, by omega, by omega⟩
  have hmw : 0 < (mwOf et : Nat) := by unfold mwOf; split <;> omega
  have hmw2 : (mwOf et : Nat) ≤ 2000000 := by unfold mwOf; split <;> omega
  obtain ⟨vv, hvv, hvv1⟩ : ∃ vv : Nat, a3 % ((mwOf et : Nat) : Int) = (vv : Int) ∧ vv < 2000000 := by
    have e1 := Int.emod_nonneg a3 (show ((mwOf et : Nat) : Int) ≠ 0 by omega)
    have e2 := Int.emod_lt_of_pos a3 (show (0 : Int) < ((mwOf et : Nat) : Int) by omega)
    exact ⟨(a3 % ((mwOf et : Nat) : Int)).toNat, by omega, by omega⟩
  obtain ⟨ba, hba⟩ : ∃ ba : Nat, a4 = (ba : Int) := ⟨a4.toNat, by omega⟩
  have HET : Hid ((et : Int) = a2 % 1000000 + 8) := het
  have HVV : Hid (a3 % ((mwOf et : Nat) : Int) = (vv : Int)) := hvv
  clear het hvv
  subst hba
  have hi' : (i : Int) < (m : Int) := by omega
  have him' : (m : Int) ≤ 8 := by omega
  go_enter Yba.func3, Yba.ntmps3
  go_wp2_with fail
  refine (ids_any w).mono ?_
  rintro e w' ⟨rfl, rfl⟩
  have hI := Blk.new w (names.map Value.string).toArray 9
  have hlI := hI.lt
  obtain ⟨nm, hnm, hcn⟩ := name_cell hI (i := i) (by omega)
  go_wp2_with fail
  refine (et_any a2 et _ h20 h21 HET.out).mono ?_
  rintro e w' ⟨rfl, rfl⟩
  go_wp2_with fail
  refine (wait_any et vv a3 _ het1 h30 h31 HVV).mono ?_
  rintro e w' ⟨rfl, rfl⟩
  go_wp2_with fail
  refine (add_any 0 0 0 ba _ isTm0 (by omega)).mono ?_
  rintro e w1 ⟨x, s, rfl, hx, ht1⟩
  rw [Nat.zero_add] at hx
  replace hI := ht1.blk hI id
  have T1 : Turn (fun _ => False) w w1 := ((Turn.refl _ w).alloc _).trans ht1
  have hlI1 := hI.lt
  clear hcn hlI ht1
  go_wp2_with fail
  generalize hIe : w.heap.size = I at hI hlI1 ⊢
  have HIe : Hid (w.heap.size = I) := hIe
  clear hIe
  have bT := (Blk.new w1 #[.int .u64 x, .int .i64 s, .pointer none] 31).alloc (.cells #[.int .i64 0] 3)
  have bC := Blk.new' (w := w1.alloc (.cells #[.int .u64 x, .int .i64 s, .pointer none] 31)) (N := w1.heap.size + 1) (by simp) #[.int .i64 0] 3
  have hI2 := (hI.alloc (.cells #[.int .u64 x, .int .i64 s, .pointer none] 31)).alloc (.cells #[.int .i64 0] 3)
  have T2 := (T1.alloc (.cells #[.int .u64 x, .int .i64 s, .pointer none] 31)).alloc (.cells #[.int .i64 0] 3)
  have hTB : w.heap.size ≤ w1.heap.size := T1.size
  have HTB : Hid (w.heap.size ≤ w1.heap.size) := hTB
  clear hI hlI1 T1 hTB
  revert bT bC hI2 T2 HTB
  generalize (w1.alloc (.cells #[.int .u64 x, .int .i64 s, .pointer none] 31)).alloc (.cells #[.int .i64 0] 3) = w2
  generalize w1.heap.size = TB
  intro bT bC hI2 T2 HTB
  refine (bnew_any nm I m 8 et (TB + 1) (names.take m) 1 0 x s a3 0 ba w2 bC h30 h31 (by omega) (by omega) hx het1 (by omega) hm8 (by simp [names]; omega) hI2.lt (names_take hI2)).mono ?_
  rintro e w4 ⟨N, rfl, K, V, w3, ⟨gx, gs, fx, fs, dx, ds, ao, pc, G, np, hnp, hd, hN, hpe, hms, hR, hT, hNs⟩, hT2, hs2⟩
  have hTT : TB ≠ TB + 1 := by omega
  have bT4 := hT.blk (hT2.blk bT id) hTT
  have bC4 : Blk w4 (TB + 1) #[.int .i64 1] 3 := hR.c
  have T4 : Turn (fun b => b = TB + 1) w w4 := ((T2.trans hT2).weak (fun _ h => h.elim)).trans hT
  have HCB : Hid (w.heap.size ≤ TB + 1) := by have := HTB.out; show _ ≤ _; omega
  have hN4 := hN
  rw [HVV.out, Int.toNat_natCast] at hd
  clear hN hpe hms hR hT hT2 hs2 bT bC hI2 T2 hnp
  have HQ : Hid ((newNV nm m et np G 1 0 gx gs fx fs dx ds K V ao pc).role = 0 ∧ (newNV nm m et np G 1 0 gx gs fx fs dx ds K V ao pc).votes = .map none ∧ (newNV nm m et np G 1 0 gx gs fx fs dx ds K V ao pc).dx = dx ∧ (newNV nm m et np G 1 0 gx gs fx fs dx ds K V ao pc).ds = ds) := ⟨rfl, rfl, rfl, rfl⟩
  revert hN4 HQ
  generalize (newNV nm m et np G 1 0 gx gs fx fs dx ds K V ao pc) = nv
  intro hN4 HQ
  have n0 : w4.cell? ⟨N, 43, none⟩ = some (.int .u64 dx) := by rw [← HQ.out.2.2.1]; exact hN4.cell 43 rfl
  have n1 : w4.cell? ⟨N, 44, none⟩ = some (.int .i64 ds) := by rw [← HQ.out.2.2.2]; exact hN4.cell 44 rfl
  have n2 : w4.cell? ⟨N, 45, none⟩ = some (.pointer none) := hN4.cell 45 rfl
  have wev : IntKind.i64.wrap ((et : Int) + vv) = (et : Int) + vv := by rw [IntKind.wrap_i64]; omega
  go_wp2_with fail
  have bD := Blk.new w4 #[.int .u64 dx, .int .i64 ds, .pointer none] 31
  have bT5 := bT4.alloc (.cells #[.int .u64 dx, .int .i64 ds, .pointer none] 31)
  have bC5 := bC4.alloc (.cells #[.int .u64 dx, .int .i64 ds, .pointer none] 31)
  have hN5 := hN4.alloc (.cells #[.int .u64 dx, .int .i64 ds, .pointer none] 31)
  have T5 := T4.alloc (.cells #[.int .u64 dx, .int .i64 ds, .pointer none] 31)
  clear n0 n1 n2 bT4 bC4 hN4 T4
  revert bD bT5 bC5 hN5 T5
  generalize w4.alloc (.cells #[.int .u64 dx, .int .i64 ds, .pointer none] 31) = w5
  generalize w4.heap.size = DB
  intro bD bT5 bC5 hN5 T5
  obtain ⟨a0', a1', a2', b0', b1', b2'⟩ := two bD bT5
  go_region_held3 (fun w' => w'.cell? ⟨DB, 0, none⟩ = some (.int .u64 dx) ∧ w'.cell? ⟨DB, 1, none⟩ = some (.int .i64 ds) ∧ w'.cell? ⟨DB, 2, none⟩ = some (.pointer none) ∧ w'.cell? ⟨TB, 0, none⟩ = some (.int .u64 x) ∧ w'.cell? ⟨TB, 1, none⟩ = some (.int .i64 s) ∧ w'.cell? ⟨TB, 2, none⟩ = some (.pointer none))
    (first | go_keep | (exact two bD6 bT6) | (exact two (ht7.blk bD6 id) (ht7.blk bT6 id)))
    (first
      | (go_at_call 9; refine (add_any x s ba (et + vv) _ hx (by omega)).mono ?_; rintro e w6 ⟨x', s', rfl, hx', ht6⟩; have bD6 := ht6.blk bD.drew id; have bT6 := ht6.blk bT5.drew id)
      | (go_at_call 11; refine (equal_any dx ds x' s' (ba + (et + vv)) (ba + (et + vv)) true _ hd hx' (by simp)).mono ?_; rintro e w7 ⟨rfl, ht7⟩))
  go_wp2_with fail
  have bD7 := ht7.blk bD6 id
  have bT7 := ht7.blk bT6 id
  have bC7 := ht7.blk (ht6.blk bC5.drew id) id
  have hN7 := ht7.blk (ht6.blk hN5.drew id) id
  have T7 := (T5.drew.trans (ht6.weak (fun _ h => h.elim))).trans (ht7.weak (fun _ h => h.elim))
  clear bD6 bT6 ht6 ht7 bD bT5 bC5 hN5 T5 a0' a1' a2' b0' b1' b2'
  obtain ⟨b0', b1', b2', _, _, _⟩ := bT7.cells3
  have lT7 := bT7.lt
  have nTB : TB ≠ w7.heap.size := by omega
  obtain ⟨ev, hev⟩ : ∃ ev : Nat, (et : Int) + vv = (ev : Int) := ⟨et + vv, by omega⟩
  obtain ⟨dd, hdd, hdd1⟩ : ∃ dd : Nat, a5 % (ev : Int) = (dd : Int) ∧ dd < ev := by
    have e1 := Int.emod_nonneg a5 (show (ev : Int) ≠ 0 by omega)
    have e2 := Int.emod_lt_of_pos a5 (show (0 : Int) < (ev : Int) by omega)
    exact ⟨(a5 % (ev : Int)).toNat, by omega, by omega⟩
  have hdt : a5.tmod (ev : Int) = (dd : Int) := by rw [Int.tmod_eq_emod_of_nonneg h50]; exact hdd
  have hpos : (0 : Int) < (ev : Int) := by omega
  have hev0 : ((ev : Int) == 0) = false := by simp; omega
  have hevn : ¬ ev = 0 := by omega
  have wdd : IntKind.i64.wrap (dd : Int) = (dd : Int) := by rw [IntKind.wrap_i64]; omega
  have wee : IntKind.i64.wrap (ev : Int) = (ev : Int) := by rw [IntKind.wrap_i64]; omega
  have wa5 : IntKind.i64.wrap a5 = a5 := by rw [IntKind.wrap_i64]; omega
  have HEV : Hid (ev = et + vv) := by show _ = _; omega
  have wev' : IntKind.i64.wrap ((et : Int) + vv) = (ev : Int) := by rw [wev]; exact hev
  have hddb : ba + dd < 1000000000000000 := by omega
  clear hev wev hdd
  go_cut [23] from 67 to 74 (fun v wc => ∃ (NB : Nat) (xn sn : Int), v = .pointer (some ⟨NB, 0, none⟩) ∧ IsTm xn sn (ba + dd) ∧ Blk wc NB #[.int .u64 xn, .int .i64 sn, .pointer none] 31 ∧ Turn (fun _ => False) w7 wc)
  case first =>
    go_region_held3 (fun w' => w'.cell? ⟨TB, 0, none⟩ = some (.int .u64 x) ∧ w'.cell? ⟨TB, 1, none⟩ = some (.int .i64 s) ∧ w'.cell? ⟨TB, 2, none⟩ = some (.pointer none)) (first | go_keep | (exact ⟨keep3 k0 (fun e => absurd e nTB), keep3 k1 (fun e => absurd e nTB), keep3 k2 (fun e => absurd e nTB)⟩)) ((go_at_call 9; refine (add_any x s ba dd _ hx hddb).mono ?_; rintro e w8 ⟨xn, sn, rfl, hxn, ht8⟩; have T8 : Turn (fun _ => False) w7 w8 := Turn.trans (by repeat (first | with_reducible exact Turn.refl _ _ | apply Turn.drew | apply Turn.alloc)) ht8; (try (have bZ := ht8.blk (show Blk _ w7.heap.size #[.int .u64 0, .int .i64 0, .pointer none] 31 by with_reducible exact Blk.drew (Blk.new w7 _ _)) id; obtain ⟨z0, z1, z2, z3, z4, z5⟩ := bZ.cells3; have lz := bZ.lt)); have bT8 := T8.blk bT7 id; obtain ⟨k0, k1, k2, _, _, _⟩ := bT8.cells3; have lT8 := bT8.lt))
    all_goals go_wp2_with fail
    all_goals go_meet
    · exact ⟨_, _, _, rfl, hxn, Blk.new _ _ _, T8.alloc _⟩
    · exact ⟨_, _, _, rfl, hxn, ((bZ.set 0 _).set 1 _).set 2 _, ((T8.set (p := ⟨w7.heap.size, 0, none⟩) (Or.inr (Nat.le_refl _)) _).set (p := ⟨w7.heap.size, 1, none⟩) (Or.inr (Nat.le_refl _)) _).set (p := ⟨w7.heap.size, 2, none⟩) (Or.inr (Nat.le_refl _)) _⟩
  case rest =>
    obtain ⟨NB, xn, sn, rfl, hxn, bN, T8⟩ := hcut
    obtain ⟨y0, y1, y2, _, _, _⟩ := bN.cells3
    have hN8 := T8.blk hN7 id
    have bD8 := T8.blk bD7 id
    have bC8 := T8.blk bC7 id
    have TW8 := T7.trans (T8.weak (fun _ h => h.elim))
    clear hN7 bD7 bC7 T7 T8 bT7 b0' b1' b2' lT7 nTB
    go_wp2_with fail
    refine (tick_early N nv xn sn (ba + dd) (ba + (et + vv)) _ hN8 hxn (by rw [HQ.out.2.2.1, HQ.out.2.2.2]; exact hd) (by have := HEV.out; omega)).mono ?_
    rintro e w9 ⟨rfl, ht9⟩
    have hN9 := ht9.blk hN8 id
    have bD9 := ht9.blk bD8 id
    have bC9 := ht9.blk bC8 id
    have TW9 := TW8.trans (ht9.weak (fun _ h => h.elim))
    clear hN8 bD8 bC8 TW8 ht9 y0 y1 y2 bN
    have e1 := fun (w : World) => run_eql_map_nil (P := Yba.prog) w 41 9 4 none Yba.underlying41
    have e2 := fun (w : World) => Lib.run_eql_slice_nil_nil (P := Yba.prog) w (t := 45) (e := 40) 0 0 Yba.underlying45
    simp only [Option.isNone_none] at e1
    have n43 : w9.cell? ⟨N, 43, none⟩ = some (.int .u64 dx) := by rw [← HQ.out.2.2.1]; exact hN9.cell 43 rfl
    have n44 : w9.cell? ⟨N, 44, none⟩ = some (.int .i64 ds) := by rw [← HQ.out.2.2.2]; exact hN9.cell 44 rfl
    have n45 : w9.cell? ⟨N, 45, none⟩ = some (.pointer none) := hN9.cell 45 rfl
    have n9 : w9.cell? ⟨N, 9, none⟩ = some (.int .i64 0) := by rw [← HQ.out.1]; exact hN9.cell 9 rfl
    have n29 : w9.cell? ⟨N, 29, none⟩ = some (.map none) := by rw [← HQ.out.2.1]; exact hN9.cell 29 rfl
    obtain ⟨k0, k1, k2, _, _, _⟩ := bD9.cells3
    have c0 : w9.cell? ⟨TB + 1, 0, none⟩ = some (.int .i64 1) := bC9.cell 0 rfl
    go_wp2_with fail
    go_region_held3 (fun w' => w'.cell? ⟨N, 43, none⟩ = some (.int .u64 dx) ∧ w'.cell? ⟨N, 44, none⟩ = some (.int .i64 ds) ∧ w'.cell? ⟨N, 45, none⟩ = some (.pointer none) ∧ w'.cell? ⟨N, 9, none⟩ = some (.int .i64 0) ∧ w'.cell? ⟨N, 29, none⟩ = some (.map none) ∧ w'.cell? ⟨DB, 0, none⟩ = some (.int .u64 dx) ∧ w'.cell? ⟨DB, 1, none⟩ = some (.int .i64 ds) ∧ w'.cell? ⟨DB, 2, none⟩ = some (.pointer none) ∧ w'.cell? ⟨TB + 1, 0, none⟩ = some (.int .i64 1))
      (first | go_keep | (exact ⟨(hq _ _ n43), (hq _ _ n44), (hq _ _ n45), (hq _ _ n9), (hq _ _ n29), (hq _ _ k0), (hq _ _ k1), (hq _ _ k2), (hq _ _ c0)⟩))
      ((go_at_call 11; refine (equal_any dx ds dx ds (ba + (et + vv)) (ba + (et + vv)) true _ hd hd (by simp)).mono ?_; rintro e w10 ⟨rfl, ht10⟩; have hq : ∀ (p : Addr) (v : Value), w9.cell? p = some v → w10.cell? p = some v := fun p v h => (ht10.cell (p := p) (World.block_lt_of_cell? w9 p h) id).trans h))
    go_wp2_with fail
    go_ret
    exact ⟨rfl, (TW9.drew.trans (ht10.weak (fun _ h => h.elim))).below _ (Nat.le_refl _) (fun i e => by have := HCB.out; omega)⟩

end Go.Proofs.Ybulkaubm

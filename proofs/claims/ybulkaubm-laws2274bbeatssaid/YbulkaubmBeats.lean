import Derived.Test.YbulkaubmFresh
namespace Go.Proofs.Ybulkaubm
open Go.RowKit Go.ChangeMaps
attribute [local go_sem ↓] Go.wp_at_zero Go.wp_at_succ

/-- The last element of a row of beats. -/
theorem lastBeat {w : World} {base : Nat} {v : Value} {k : Nat} {xs : List Value} {a b c d : Value} (o : w.ownsRow base 59 4 v (k + 1) (xs ++ [a, b, c, d])) :
    ∃ g cap, v = .slice (some ⟨g, 0, none⟩) (k + 1) cap ∧ w.cell? ⟨g, 4 * k, none⟩ = some a ∧ w.cell? ⟨g, 4 * k + 1, none⟩ = some b ∧ w.cell? ⟨g, 4 * k + 2, none⟩ = some c ∧ w.cell? ⟨g, 4 * k + 3, none⟩ = some d := by
  have hl : xs.length = 4 * k := by have := o.1; simp at this; omega
  obtain ⟨g, cap, rfl⟩ : ∃ g cap, v = .slice (some ⟨g, 0, none⟩) (k + 1) cap := by
    obtain ⟨_, ⟨_, h⟩ | ⟨g, cap, cur, h, _⟩⟩ := o
    · cases h
    · exact ⟨g, cap, h⟩
  refine ⟨g, cap, rfl, ?_, ?_, ?_, ?_⟩
  · rw [o.cellAt _ (by omega), ← hl, List.getElem?_append_right (by omega)]; simp
  · rw [o.cellAt _ (by omega), ← hl, List.getElem?_append_right (by omega)]; simp
  · rw [o.cellAt _ (by omega), ← hl, List.getElem?_append_right (by omega)]; simp
  · rw [o.cellAt _ (by omega), ← hl, List.getElem?_append_right (by omega)]; simp

/-- What the law's last line reads. -/
def FinS (LB TJ N L : Nat) (y s nx ns ex es tm : Int) (w' : World) : Prop :=
  w'.cell? ⟨LB, 0, none⟩ = some (.int .u64 2) ∧ w'.cell? ⟨LB, 1, none⟩ = some (.int .u64 y) ∧ w'.cell? ⟨LB, 2, none⟩ = some (.int .i64 s) ∧ w'.cell? ⟨LB, 3, none⟩ = some (.pointer none) ∧
  w'.cell? ⟨TJ, 0, none⟩ = some (.int .u64 y) ∧ w'.cell? ⟨TJ, 1, none⟩ = some (.int .i64 s) ∧ w'.cell? ⟨TJ, 2, none⟩ = some (.pointer none) ∧
  w'.cell? ⟨N, 9, none⟩ = some (.int .i64 2) ∧ w'.cell? ⟨N, 10, none⟩ = some (.int .u64 tm) ∧ w'.cell? ⟨N, 43, none⟩ = some (.int .u64 nx) ∧ w'.cell? ⟨N, 44, none⟩ = some (.int .i64 ns) ∧ w'.cell? ⟨N, 45, none⟩ = some (.pointer none) ∧
  w'.cell? ⟨L, 6, none⟩ = some (.int .u64 ex) ∧ w'.cell? ⟨L, 7, none⟩ = some (.int .i64 es) ∧ w'.cell? ⟨L, 8, none⟩ = some (.pointer none)
theorem Turn.keeps {w w' : World} (ht : Turn (fun _ => False) w w') {p : Addr} {v : Value} (h : w.cell? p = some v) : w'.cell? p = some v := (ht.cell (World.block_lt_of_cell? w p h) id).trans h
theorem FinS.turn {LB TJ N L : Nat} {y s nx ns ex es tm : Int} {w w' : World} (h : FinS LB TJ N L y s nx ns ex es tm w) (ht : Turn (fun _ => False) w w') : FinS LB TJ N L y s nx ns ex es tm w' := by
  obtain ⟨a, b, c, d, e, f, g, h, i, j, k, l, m, n, o⟩ := h
  exact ⟨ht.keeps a, ht.keeps b, ht.keeps c, ht.keeps d, ht.keeps e, ht.keeps f, ht.keeps g, ht.keeps h, ht.keeps i, ht.keeps j, ht.keeps k, ht.keeps l, ht.keeps m, ht.keeps n, ht.keeps o⟩

theorem LoneP.mono {w w1 w' : World} {N K V CB : Nat} {v cnt : Int} {nv : NV} {nm : ByteArray} {x s : Int} {t le hb : Nat} (h : LoneP w1 w' N K V CB v cnt nv nm x s t le hb) (ht : Turn (fun _ => False) w w1) : LoneP w w' N K V CB v cnt nv nm x s t le hb := by
  obtain ⟨L, A, v2, nx, ns, ex, es, rf, gL, gA, hnx, hex, hL, ho, hN, hA, R, T⟩ := h
  exact ⟨L, A, v2, nx, ns, ex, es, rf, Nat.le_trans ht.size gL, Nat.le_trans ht.size gA, hnx, hex, hL, ho, hN, hA, R, (ht.weak (fun _ h => h.elim)).trans T⟩

set_option maxHeartbeats 2000000 in
set_option maxRecDepth 100000 in
theorem beats_walk (a0 a1 a2 a3 a4 a5 a6 : Int) (w : World) (h0 : 0 ≤ a0 ∧ a0 < 4294967296) (h1 : 0 ≤ a1 ∧ a1 < 4294967296) (h2 : 0 ≤ a2 ∧ a2 < 4294967296) (h3 : 0 ≤ a3 ∧ a3 < 4294967296) (h4 : 0 ≤ a4 ∧ a4 < 4294967296) (h5 : 0 ≤ a5 ∧ a5 < 4294967296) (h6 : 0 ≤ a6 ∧ a6 < 18446744073709551616) :
    Calls Yba.prog 5 #[.int .u32 a0, .int .u32 a1, .int .u32 a2, .int .u32 a3, .int .u32 a4, .int .u32 a5, .int .u64 a6] w fun e w' => e = .returned (.bool true) ∧ Below w.heap.size w w' := by
  obtain ⟨h00, h01⟩ := h0
  obtain ⟨h10, h11⟩ := h1
  obtain ⟨h20, h21⟩ := h2
  obtain ⟨h30, h31⟩ := h3
  obtain ⟨h40, h41⟩ := h4
  obtain ⟨h50, h51⟩ := h5
  obtain ⟨h60, h61⟩ := h6
  obtain ⟨tm, htm0, htm1, htm⟩ : ∃ tm : Int, 0 ≤ tm ∧ tm < 18446744073709551615 ∧ (if a6 = 18446744073709551615 then tm = a6 - 1 else tm = a6) := by
    by_cases h : a6 = 18446744073709551615
    · exact ⟨a6 - 1, by omega, by omega, by rw [if_pos h]⟩
    · exact ⟨a6, by omega, by omega, by rw [if_neg h]⟩
  have HTM : Hid (if a6 = 18446744073709551615 then tm = a6 - 1 else tm = a6) := htm
  clear htm
  obtain ⟨et, het, het1, het8⟩ : ∃ et : Nat, (et : Int) = a0 % 1000000 + 8 ∧ et ≤ 2000000 ∧ 8 ≤ et := ⟨(a0 % 1000000 + 8).toNat, by omega, by omega, by omega⟩
  have hmw : 0 < (mwOf et : Nat) := by unfold mwOf; split <;> omega
  have hmw2 : (mwOf et : Nat) ≤ 2000000 := by unfold mwOf; split <;> omega
  obtain ⟨vv, hvv, hvv1⟩ : ∃ vv : Nat, a1 % ((mwOf et : Nat) : Int) = (vv : Int) ∧ vv < 2000000 := by
    have e1 := Int.emod_nonneg a1 (show ((mwOf et : Nat) : Int) ≠ 0 by omega)
    have e2 := Int.emod_lt_of_pos a1 (show (0 : Int) < ((mwOf et : Nat) : Int) by omega)
    exact ⟨(a1 % ((mwOf et : Nat) : Int)).toNat, by omega, by omega⟩
  obtain ⟨ba, hba⟩ : ∃ ba : Nat, a3 = (ba : Int) := ⟨a3.toNat, by omega⟩
  subst hba
  obtain ⟨le, hle⟩ : ∃ le : Nat, leaseOf et = le := ⟨_, rfl⟩
  have hle0 : 0 < le := by subst hle; unfold leaseOf; omega
  have hle1 : le ≤ 2000000 := by subst hle; unfold leaseOf; omega
  obtain ⟨hr, hhr, hhr1⟩ : ∃ hr : Nat, a2 % (le : Int) = (hr : Int) ∧ hr < le := by
    have e1 := Int.emod_nonneg a2 (show (le : Int) ≠ 0 by omega)
    have e2 := Int.emod_lt_of_pos a2 (show (0 : Int) < (le : Int) by omega)
    exact ⟨(a2 % (le : Int)).toNat, by omega, by omega⟩
  obtain ⟨hb, hhb⟩ : ∃ hb : Nat, hb = 1 + hr := ⟨_, rfl⟩
  obtain ⟨x1, hx1, hx11⟩ : ∃ x1 : Nat, a4 % 1000 = (x1 : Int) ∧ x1 < 1000 := ⟨(a4 % 1000).toNat, by omega, by omega⟩
  obtain ⟨x2, hx2, hx21⟩ : ∃ x2 : Nat, a5 % ((le : Int) + le) = (x2 : Int) ∧ x2 < le + le := by
    have e1 := Int.emod_nonneg a5 (show (le : Int) + le ≠ 0 by omega)
    have e2 := Int.emod_lt_of_pos a5 (show (0 : Int) < (le : Int) + le by omega)
    exact ⟨(a5 % ((le : Int) + le)).toNat, by omega, by omega⟩
  have HET : Hid ((et : Int) = a0 % 1000000 + 8) := het
  have HVV : Hid (a1 % ((mwOf et : Nat) : Int) = (vv : Int)) := hvv
  have HLE : Hid (leaseOf et = le) := hle
  have HHR : Hid (a2 % (le : Int) = (hr : Int)) := hhr
  have HHB : Hid (hb = 1 + hr) := hhb
  have HX1 : Hid (a4 % 1000 = (x1 : Int)) := hx1
  have HX2 : Hid (a5 % ((le : Int) + le) = (x2 : Int)) := hx2
  have hb1 : 1 ≤ hb := by omega
  have hbl : hb ≤ le := by omega
  have thb : a2.tmod (le : Int) = (hr : Int) := by rw [Int.tmod_eq_emod_of_nonneg h20]; exact hhr
  clear het hvv hle hhr hhb hx1 hx2
  go_enter Yba.func5, Yba.ntmps5
  go_upto_if 30 with fail
  go_cut [6] from 29 to 32 (fun v wd => v = .int .u64 tm ∧ w = wd)
  case first =>
    by_cases h : a6 = 18446744073709551615
    · have hE : (a6 == 18446744073709551615) = true := beq_iff_eq.2 h
      have hT := HTM.out
      rw [if_pos h] at hT
      have hW : IntKind.u64.wrap (a6 - 1) = tm := by rw [IntKind.wrap_u64]; omega
      rw [hE]
      clear hE h h60 h61
      go_wp2_with fail
      go_meet
      exact ⟨by rw [hT], rfl⟩
    · have hE : (a6 == 18446744073709551615) = false := beq_eq_false_iff_ne.2 h
      rw [hE]
      clear hE
      go_wp2_with fail
      go_meet
      have := HTM.out
      rw [if_neg h] at this
      exact ⟨by rw [this], rfl⟩
  case rest =>
    obtain ⟨rfl, rfl⟩ := hcut
    clear HTM h60 h61
    go_wp2_with fail
    refine (et_any a0 et _ h00 h01 HET.out).mono ?_
    rintro e w' ⟨rfl, rfl⟩
    go_wp2_with fail
    refine (lease_any et _ het1).mono ?_
    rintro e w' ⟨rfl, rfl⟩
    rw [HLE.out]
    have hlen : ¬ le = 0 := by omega
    have wa2 : IntKind.i64.wrap a2 = a2 := by rw [IntKind.wrap_i64]; omega
    have whr : IntKind.i64.wrap (hr : Int) = (hr : Int) := by rw [IntKind.wrap_i64]; omega
    have whb : IntKind.i64.wrap (1 + (hr : Int)) = (hb : Int) := by rw [IntKind.wrap_i64]; have := HHB.out; omega
    go_wp2_with fail
    refine (add_any 0 0 0 ba _ isTm0 (by omega)).mono ?_
    rintro e w1 ⟨x, s, rfl, hx, ht1⟩
    rw [Nat.zero_add] at hx
    go_wp2_with fail
    have T1 : Turn (fun _ => False) w w1 := ht1
    have bC := (Blk.new' (w := w1.alloc (.cells #[.int .u64 x, .int .i64 s, .pointer none] 31)) (N := w1.heap.size + 1) (by simp) #[.int .i64 0] 3).alloc (.cells #[.string ⟨#[97]⟩] 9)
    have bM := Blk.new' (w := (w1.alloc (.cells #[.int .u64 x, .int .i64 s, .pointer none] 31)).alloc (.cells #[.int .i64 0] 3)) (N := w1.heap.size + 1 + 1) (by simp) #[.string ⟨#[97]⟩] 9
    have T2 := ((T1.alloc (.cells #[.int .u64 x, .int .i64 s, .pointer none] 31)).alloc (.cells #[.int .i64 0] 3)).alloc (.cells #[.string ⟨#[97]⟩] 9)
    have HTB : Hid (w.heap.size ≤ w1.heap.size) := T1.size
    clear T1 ht1
    revert bC bM T2 HTB
    generalize ((w1.alloc (.cells #[.int .u64 x, .int .i64 s, .pointer none] 31)).alloc (.cells #[.int .i64 0] 3)).alloc (.cells #[.string ⟨#[97]⟩] 9) = w2
    generalize w1.heap.size = TB
    intro bC bM T2 HTB
    have hM0 : ∀ (i : Nat) (h : i < [(⟨#[97]⟩ : ByteArray)].length), w2.cell? ⟨TB + 1 + 1, i, none⟩ = some (.string [(⟨#[97]⟩ : ByteArray)][i]) := by
      intro i h
      obtain rfl : i = 0 := by simpa using h
      exact bM.cell 0 rfl
    refine (bnew_any ⟨#[97]⟩ (TB + 1 + 1) 1 1 et (TB + 1) [⟨#[97]⟩] hb tm x s a1 0 ba w2 bC h10 h11 (by omega) (by omega) hx het1 (by omega) (by omega) rfl bM.lt hM0).mono ?_
    rintro e w4 ⟨N, rfl, K, V, w3, ⟨gx, gs, fx, fs, dx, ds, ao, pc, G, np, hnp, hd, hN, hpe, hms, hR, hT, hNs⟩, hT2, hs2⟩
    obtain rfl : np = 0 := hnp.trans (by decide)
    have T4 : Turn (fun b => b = TB + 1) w w4 := ((T2.trans hT2).weak (fun _ h => h.elim)).trans hT
    have HCB : Hid (w.heap.size ≤ TB + 1) := by have := HTB.out; show _ ≤ _; omega
    have HNB : Hid (w.heap.size ≤ N) := Nat.le_trans (T2.trans hT2).size hNs
    rw [HVV.out, Int.toNat_natCast] at hd
    clear hpe hms hT hT2 hs2 bC bM T2 hnp hNs
    have HF := newNV_fresh ⟨#[97]⟩ 1 et 0 G hb tm gx gs fx fs dx ds K V ao pc
    revert hN HF
    generalize (newNV ⟨#[97]⟩ 1 et 0 G hb tm gx gs fx fs dx ds K V ao pc) = nv
    intro hN HF
    have n0 : w4.cell? ⟨N, 43, none⟩ = some (.int .u64 dx) := by rw [← HF.e_dx]; exact hN.cell 43 rfl
    have n1 : w4.cell? ⟨N, 44, none⟩ = some (.int .i64 ds) := by rw [← HF.e_ds]; exact hN.cell 44 rfl
    have n2 : w4.cell? ⟨N, 45, none⟩ = some (.pointer none) := hN.cell 45 rfl
    have wx1 : IntKind.i64.wrap (x1 : Int) = (x1 : Int) := by rw [IntKind.wrap_i64]; omega
    have tx1 : a4.tmod 1000 = (x1 : Int) := by rw [Int.tmod_eq_emod_of_nonneg h40]; exact HX1.out
    have ux1 : IntKind.u32.wrap (x1 : Int) = (x1 : Int) := by rw [IntKind.wrap_u32]; omega
    go_wp2_with fail
    refine (add_any dx ds (ba + (et + vv)) x1 _ hd (by omega)).mono ?_
    rintro e w5 ⟨y1, s1, rfl, hy1, ht5⟩
    have N5 := ht5.blk hN id
    have R5 := hR.turn ht5 id id id
    have T5 := T4.trans (ht5.weak (fun _ h => h.elim))
    clear n0 n1 n2 hN hR T4 ht5
    go_upto_region 10 with fail
    have bI := Blk.new w5 #[.int .u64 y1, .int .i64 s1, .pointer none] 31
    have N6 := N5.alloc (.cells #[.int .u64 y1, .int .i64 s1, .pointer none] 31)
    have R6 := R5.turn ((Turn.refl (fun _ => False) w5).alloc (.cells #[.int .u64 y1, .int .i64 s1, .pointer none] 31)) id id id
    have T6 := T5.alloc (.cells #[.int .u64 y1, .int .i64 s1, .pointer none] 31)
    clear N5 R5 T5
    revert bI N6 R6 T6
    generalize w5.alloc (.cells #[.int .u64 y1, .int .i64 s1, .pointer none] 31) = w6
    generalize w5.heap.size = TI
    intro bI N6 R6 T6
    obtain ⟨i0, i1, i2, _, _, _⟩ := bI.cells3
    obtain ⟨t1, ht1⟩ : ∃ t1, t1 = ba + (et + vv) + x1 := ⟨_, rfl⟩
    rw [← ht1] at hy1
    have HT1 : Hid (t1 = ba + (et + vv) + x1) := ht1
    have h1b : t1 ≤ 10000000000 := by omega
    have h10' : 0 < t1 := by omega
    have h1d : ba + (et + vv) ≤ t1 := by omega
    clear ht1
    have wN := HF.e_won
    go_wp2_with fail
    refine (tick_pre N nv y1 s1 t1 (ba + (et + vv)) w6 N6 hy1 (by rw [HF.e_dx, HF.e_ds]; exact hd) h1d wN (some ⟨G, 0, none⟩) 0 0 (fun w' => LoneP w6 w' N K V (TB + 1) a1 1 nv ⟨#[97]⟩ y1 s1 t1 le hb)
      (fun w1 htw => (pre_lone N K V (TB + 1) G pc ao nv ⟨#[97]⟩ a1 1 y1 s1 t1 et le hb w1 (htw.blk N6 id) (R6.turn htw id id id) HF.e_rnd hy1 h10' h10 h11 (by decide) (by decide) (by rw [HF.e_mw]; omega) (by rw [HF.e_mw]; omega) HF.e_et (by omega) (by omega) HF.e_role HF.e_votes (by rw [HF.e_term]; exact htm0) (by rw [HF.e_term]; exact htm1) wN (by rw [HF.e_c0]; decide) (by rw [HF.e_c0]; decide) (by rw [HF.e_c1]; decide) (by rw [HF.e_c1]; decide) (by rw [HF.e_quorum]; decide) HF.e_id (by rw [HF.e_lease, HLE.out]) HF.e_hb hbl (by omega) HF.e_msgs HF.e_peers).mono (fun e w' h => ⟨h.1, h.2.mono htw⟩))).mono ?_
    rintro e w7 ⟨rfl, L, A, v2, nx, ns, ex, es, rf, gL, gA, hnx, hex, hL, ho, hN7, hA, R7, T7⟩
    have bI7 := T7.blk bI (by rintro (e | e); exact bI.ne N6 (by decide) e; exact bI.ne R6.c (by decide) e)
    have T7' : Turn (fun b => b = TB + 1 ∨ b = N) w w7 := (T6.weak (fun _ h => Or.inl h)).trans (T7.weak (fun _ h => h.symm))
    have HLB : Hid (w.heap.size ≤ L) := Nat.le_trans T6.size gL
    have HAB : Hid (w.heap.size ≤ A) := Nat.le_trans T6.size gA
    clear T7 T6 R6 N6 bI gL gA wN R7 i0 i1 i2 hd
    revert hN7
    generalize hnv7 : { nv with role := 2, term := nv.term + 1, votedFor := ⟨#[97]⟩, leader := ⟨#[97]⟩, votes := Value.map none, refused := rf, ax := y1, ay := s1, won := Value.pointer (some ⟨L, 0, none⟩), dx := nx, ds := ns, c0 := nv.c0 + 1, c1 := nv.c1 + 1 } = nv7
    intro N7
    have HN7 : Hid ({ nv with role := 2, term := nv.term + 1, votedFor := ⟨#[97]⟩, leader := ⟨#[97]⟩, votes := Value.map none, refused := rf, ax := y1, ay := s1, won := Value.pointer (some ⟨L, 0, none⟩), dx := nx, ds := ns, c0 := nv.c0 + 1, c1 := nv.c1 + 1 } = nv7) := hnv7
    have c42 : w7.cell? ⟨N, 42, none⟩ = some (.pointer (some ⟨L, 0, none⟩)) := by subst hnv7; exact N7.cell 42 rfl
    have c9 : w7.cell? ⟨N, 9, none⟩ = some (.int .i64 2) := by subst hnv7; exact N7.cell 9 rfl
    have n43 : w7.cell? ⟨N, 43, none⟩ = some (.int .u64 nx) := by subst hnv7; exact N7.cell 43 rfl
    have n44 : w7.cell? ⟨N, 44, none⟩ = some (.int .i64 ns) := by subst hnv7; exact N7.cell 44 rfl
    have n45 : w7.cell? ⟨N, 45, none⟩ = some (.pointer none) := by subst hnv7; exact N7.cell 45 rfl
    clear hnv7
    obtain ⟨i0, i1, i2, _, _, _⟩ := bI7.cells3
    go_upto_region 13 with fail
    go_region_held3 (fun w' => w'.cell? ⟨N, 43, none⟩ = some (.int .u64 nx) ∧ w'.cell? ⟨N, 44, none⟩ = some (.int .i64 ns) ∧ w'.cell? ⟨N, 45, none⟩ = some (.pointer none) ∧ w'.cell? ⟨TI, 0, none⟩ = some (.int .u64 y1) ∧ w'.cell? ⟨TI, 1, none⟩ = some (.int .i64 s1) ∧ w'.cell? ⟨TI, 2, none⟩ = some (.pointer none))
      (first | go_keep | (exact ⟨hq _ _ n43, hq _ _ n44, hq _ _ n45, hq _ _ i0, hq _ _ i1, hq _ _ i2⟩) | (exact ⟨hq2 _ _ n43, hq2 _ _ n44, hq2 _ _ n45, hq2 _ _ i0, hq2 _ _ i1, hq2 _ _ i2⟩))
      (first
        | (go_at_call 9; refine (add_any y1 s1 t1 hb _ hy1 (by omega)).mono ?_; rintro e w8 ⟨x', s', rfl, hx', ht8⟩; have hq : ∀ (p : Addr) (v : Value), w7.cell? p = some v → w8.cell? p = some v := fun p v h => (ht8.cell (p := p) (World.block_lt_of_cell? w7 p h) id).trans h)
        | (go_at_call 11; refine (equal_any nx ns x' s' (t1 + hb) (t1 + hb) true _ hnx hx' (by simp)).mono ?_; rintro e w9 ⟨rfl, ht9⟩; have hq2 : ∀ (p : Addr) (v : Value), w7.cell? p = some v → w9.cell? p = some v := fun p v h => (ht9.cell (p := p) (World.block_lt_of_cell? w8 p (hq p v h)) id).trans (hq p v h)))
    have T9 : Turn (fun _ => False) w7 w9 := ((Turn.refl (fun _ => False) w7).drew.trans ht8).trans ht9
    have N9 := T9.blk N7 id
    have L9 := T9.blk hL id
    have o9 := own_turn ho T9 (fun _ _ => id)
    have A9 := T9.one hA id
    have bI9 := T9.blk bI7 id
    have T9' := T7'.trans (T9.weak (fun _ h => h.elim))
    clear N7 hL ho hA bI7 T7' T9 ht8 ht9 hq hq2 c42 c9 n43 n44 n45 i0 i1 i2
    obtain ⟨i0, i1, i2, _, _, _⟩ := bI9.cells3
    have wll : IntKind.i64.wrap ((le : Int) + le) = (le : Int) + le := by rw [IntKind.wrap_i64]; omega
    have tx2 : a5.tmod ((le : Int) + le) = (x2 : Int) := by rw [Int.tmod_eq_emod_of_nonneg h50]; exact HX2.out
    have wx2 : IntKind.i64.wrap (x2 : Int) = (x2 : Int) := by rw [IntKind.wrap_i64]; omega
    have wa5 : IntKind.i64.wrap a5 = a5 := by rw [IntKind.wrap_i64]; omega
    obtain ⟨hx, hhx⟩ : ∃ hx : Nat, (hb : Int) + x2 = (hx : Int) := ⟨hb + x2, by omega⟩
    have whx : IntKind.i64.wrap ((hb : Int) + x2) = (hx : Int) := by rw [IntKind.wrap_i64]; omega
    have hll : ¬ (le : Int) + le = 0 := by omega
    go_upto_region 16 with fail
    have HHX : Hid (hx = hb + x2) := by show _ = _; omega
    have hxb : hx ≤ 10000000 := by omega
    go_wp2_with fail
    refine (add_any y1 s1 t1 hx _ hy1 (by omega)).mono ?_
    rintro e w10 ⟨y2, s2, rfl, hy2, ht10⟩
    have N10 := ht10.blk N9 id
    have L10 := ht10.blk L9 id
    have o10 := own_turn o9 ht10 (fun _ _ => id)
    have A10 := ht10.one A9 id
    have T10 := T9'.trans (ht10.weak (fun _ h => h.elim))
    clear N9 L9 o9 A9 bI9 T9' ht10 i0 i1 i2
    go_upto_region 17 with fail
    have T11a := (Turn.refl (fun _ => False) w10).alloc (.cells #[.int .u64 y2, .int .i64 s2, .pointer none] 31)
    have bJ := Blk.new w10 #[.int .u64 y2, .int .i64 s2, .pointer none] 31
    have N11 := T11a.blk N10 id
    have L11 := T11a.blk L10 id
    have o11 := own_turn o10 T11a (fun _ _ => id)
    have A11 := T11a.one A10 id
    have T11 := T10.alloc (.cells #[.int .u64 y2, .int .i64 s2, .pointer none] 31)
    clear T11a N10 L10 o10 A10 T10
    revert bJ N11 L11 o11 A11 T11
    generalize w10.alloc (.cells #[.int .u64 y2, .int .i64 s2, .pointer none] 31) = w11
    generalize w10.heap.size = TJ
    intro bJ N11 L11 o11 A11 T11
    obtain ⟨j0, j1, j2, _, _, _⟩ := bJ.cells3
    obtain ⟨g, cap, rfl⟩ : ∃ g cap, v2 = .slice (some ⟨g, 0, none⟩) 1 cap := by
      obtain ⟨_, ⟨_, h⟩ | ⟨g, cap, cur, h, _⟩⟩ := o11
      · cases h
      · exact ⟨g, cap, h⟩
    have OB : OneBeat w11 L g cap 1 y1 s1 := o11
    obtain ⟨t2, ht2⟩ : ∃ t2, t2 = t1 + hx := ⟨_, rfl⟩
    rw [← ht2] at hy2
    have h2b : t2 ≤ 11000000000 := by omega
    have h20' : 0 < t2 := by omega
    have h2d : t1 + hb ≤ t2 := by have := HHX.out; omega
    have h2e : t1 + le < t2 + le := by have := HHX.out; omega
    obtain ⟨kept, e, hk1, HK⟩ : ∃ kept e : Nat, kept ≤ 1 ∧ ((hx < le ∧ e = 0 ∧ kept = 1) ∨ (le ≤ hx ∧ e = 1 ∧ kept = 0)) := by
      by_cases h : hx < le
      · exact ⟨1, 0, Nat.le_refl 1, Or.inl ⟨h, rfl, rfl⟩⟩
      · exact ⟨0, 1, Nat.zero_le 1, Or.inr ⟨by omega, rfl, rfl⟩⟩
    have HK' : Hid ((hx < le ∧ e = 0 ∧ kept = 1) ∨ (le ≤ hx ∧ e = 1 ∧ kept = 0)) := HK
    have HT2 : Hid (t2 = t1 + hx) := ht2
    have HHD : Hid (IsTm nv7.dx nv7.ds (t1 + hb) ∧ nv7.won = .pointer (some ⟨L, 0, none⟩) ∧ nv7.quorum = 1 ∧ nv7.id = ⟨#[97]⟩ ∧ nv7.lease = le ∧ nv7.hb = hb ∧ nv7.msgs = .slice (some ⟨G, 0, none⟩) 0 0 ∧ nv7.peers = .slice ao 0 pc ∧ nv7.term = tm + 1) := by
      have h := HN7.out
      subst h
      exact ⟨hnx, rfl, HF.e_quorum, HF.e_id, HF.e_lease.trans (by rw [HLE.out]), HF.e_hb, HF.e_msgs, HF.e_peers, by show nv.term + 1 = _; rw [HF.e_term]⟩
    clear HK ht2
    go_wp2_with fail
    refine (tick_lead N L nv7 _ y2 s2 t2 (t1 + hb) w11 N11 L11 hy2 HHD.out.1 h2d HHD.out.2.1 (some ⟨G, 0, none⟩) 0 0 (fun w' => ∃ w0, Turn (fun _ => False) w11 w0 ∧ SendP w0 w' N L A nv7 _ ⟨#[97]⟩ y2 s2 t2 le hb kept)
      (fun w1 htw => (send_any N L A G pc ao nv7 _ ⟨#[97]⟩ y2 s2 t2 le hb e kept w1 (htw.blk N11 id) (htw.blk L11 id) hy2 h20' (Or.inr ⟨_, htw.one A11 id⟩) HHD.out.2.1 rfl HHD.out.2.2.1 HHD.out.2.2.2.1 HHD.out.2.2.2.2.1 HHD.out.2.2.2.2.2.1 hbl (by omega) (show (0 : Int) ≤ 1 by decide) (show (1 : Int) ≤ 100 by decide) HHD.out.2.2.2.2.2.2.1 HHD.out.2.2.2.2.2.2.2.1 (Or.inr ⟨t1 + le, hex, h2e⟩) hk1 (Or.inr ⟨g, cap, 1, y1, s1, t1, rfl, OB.turn htw id, hy1, by omega, by have := HK'.out; have := HT2.out; omega⟩)).mono (fun e w' h => ⟨h.1, w1, htw, h.2⟩))).mono ?_
    rintro e' w12 ⟨rfl, w0, htw, v3, xs3, nx2, ns2, ex2, es2, hnx2, hex2, L12, o12, N12, A12, T12⟩
    have T12a : Turn (fun b => b = N ∨ b = L ∨ b = A ∨ b = g) w11 w12 := (htw.weak (fun _ h => h.elim)).trans (T12.weak (fun b h => by rcases h with h | h | h | h <;> simp_all [Value.ownBlock]))
    have J12 := T12a.blk bJ (by
      rintro (e | e | e | e)
      · exact bJ.ne N11 (by decide) e
      · exact bJ.ne L11 (by decide) e
      · exact (show A ≠ TJ from Holds1.nem A11 bJ) e.symm
      · exact own_not o11 rfl (e ▸ bJ) (by decide))
    have HG : Hid (w.heap.size ≤ g) := by have h1 := OB.ge.1; have h2 := HLB.out; show _ ≤ _; omega
    have T12' : Turn (fun b => b = TB + 1 ∨ b = N) w w12 := T11.then T12a (by
      rintro b (e | e | e | e)
      · exact Or.inl (Or.inr e)
      · exact Or.inr (e ▸ HLB.out)
      · exact Or.inr (e ▸ HAB.out)
      · exact Or.inr (e ▸ HG.out))
    clear T12 T12a T11 bJ N11 L11 o11 OB A11 A12 htw j0 j1 j2
    obtain ⟨g3, cap3, rfl, q0, q1, q2, q3⟩ := lastBeat o12
    have c42 : w12.cell? ⟨N, 42, none⟩ = some (.pointer (some ⟨L, 0, none⟩)) := by rw [← HHD.out.2.1]; exact N12.cell 42 rfl
    have c9 : w12.cell? ⟨N, 9, none⟩ = some (.int .i64 2) := N12.cell 9 rfl
    have c10 : w12.cell? ⟨N, 10, none⟩ = some (.int .u64 (tm + 1)) := by rw [← HHD.out.2.2.2.2.2.2.2.2]; exact N12.cell 10 rfl
    have n43 : w12.cell? ⟨N, 43, none⟩ = some (.int .u64 nx2) := N12.cell 43 rfl
    have n44 : w12.cell? ⟨N, 44, none⟩ = some (.int .i64 ns2) := N12.cell 44 rfl
    have n45 : w12.cell? ⟨N, 45, none⟩ = some (.pointer none) := N12.cell 45 rfl
    have l0 : w12.cell? ⟨L, 0, none⟩ = some (.slice (some ⟨g3, 0, none⟩) (kept + 1) cap3) := L12.cell 0 rfl
    have l1 : w12.cell? ⟨L, 1, none⟩ = some (.int .u64 2) := L12.cell 1 rfl
    have l6 : w12.cell? ⟨L, 6, none⟩ = some (.int .u64 ex2) := L12.cell 6 rfl
    have l7 : w12.cell? ⟨L, 7, none⟩ = some (.int .i64 es2) := L12.cell 7 rfl
    have l8 : w12.cell? ⟨L, 8, none⟩ = some (.pointer none) := L12.cell 8 rfl
    obtain ⟨j0, j1, j2, _, _, _⟩ := J12.cells3
    have HL3 : Hid (N < w12.heap.size ∧ L < w12.heap.size ∧ g3 < w12.heap.size) := ⟨N12.lt, L12.lt, (own_ge o12 g3 rfl).2⟩
    clear N12 L12 o12
    go_upto_if 122 with fail
    rcases HK'.out with ⟨hlt, rfl, rfl⟩ | ⟨hge, rfl, rfl⟩
    · rw [show decide (le ≤ hx) = false from decide_eq_false (by omega)]
      have lx := HL3.out
      go_upto_region 26 with fail
      go_cut [28] from 137 to 148 (fun v wd => ∃ LB : Nat, v = .pointer (some ⟨LB, 0, none⟩) ∧ Blk wd LB #[.int .u64 2, .int .u64 y2, .int .i64 s2, .pointer none] 59 ∧ Turn (fun _ => False) w12 wd)
      case first =>
        obtain ⟨lx1, lx2, lx3⟩ := lx
        go_region
        go_wp2_with fail
        go_meet
        exact ⟨_, rfl, (Blk.new w12 _ _).drew, ((Turn.refl (fun _ => False) w12).alloc _).drew⟩
      case rest =>
        obtain ⟨LB, rfl, bL, T13⟩ := hcut
        revert bL T13
        generalize wc = w13
        intro bL T13
        have T13' := T12'.trans (T13.weak (fun _ h => h.elim))
        replace c9 := T13.keeps c9
        replace c10 := T13.keeps c10
        replace n43 := T13.keeps n43
        replace n44 := T13.keeps n44
        replace n45 := T13.keeps n45
        replace l6 := T13.keeps l6
        replace l7 := T13.keeps l7
        replace l8 := T13.keeps l8
        replace j0 := T13.keeps j0
        replace j1 := T13.keeps j1
        replace j2 := T13.keeps j2
        have b0 : w13.cell? ⟨LB, 0, none⟩ = some (.int .u64 2) := bL.cell 0 rfl
        have b1 : w13.cell? ⟨LB, 1, none⟩ = some (.int .u64 y2) := bL.cell 1 rfl
        have b2 : w13.cell? ⟨LB, 2, none⟩ = some (.int .i64 s2) := bL.cell 2 rfl
        have b3 : w13.cell? ⟨LB, 3, none⟩ = some (.pointer none) := bL.cell 3 rfl
        have HS : FinS LB TJ N L y2 s2 nx2 ns2 ex2 es2 (tm + 1) w13 := ⟨b0, b1, b2, b3, j0, j1, j2, c9, c10, n43, n44, n45, l6, l7, l8⟩
        have TQ : Turn (fun _ => False) w13 w13.drew := (Turn.refl (fun _ => False) w13).drew
        have wtm : IntKind.u64.wrap (tm + 1) = tm + 1 := by rw [IntKind.wrap_u64]; omega
        have k1 : Hid True := trivial
        have k2 : Hid True := trivial
        have k3 : Hid True := trivial
        have k4 : Hid True := trivial
        have k5 : Hid True := trivial
        clear c42 l0 l1 q0 q1 q2 q3 lx T12' T13 bL J12 HK' HHX HHR HHB HX1 HX2 HLE HVV HET HT1 HT2 HHD HN7 HF
        go_upto_region 27 with fail
        go_region_held3 (fun w' => w'.cell? ⟨LB, 0, none⟩ = some (.int .u64 2) ∧ w'.cell? ⟨LB, 1, none⟩ = some (.int .u64 y2) ∧ w'.cell? ⟨LB, 2, none⟩ = some (.int .i64 s2) ∧ w'.cell? ⟨LB, 3, none⟩ = some (.pointer none) ∧
            w'.cell? ⟨TJ, 0, none⟩ = some (.int .u64 y2) ∧ w'.cell? ⟨TJ, 1, none⟩ = some (.int .i64 s2) ∧ w'.cell? ⟨TJ, 2, none⟩ = some (.pointer none) ∧
            w'.cell? ⟨N, 9, none⟩ = some (.int .i64 2) ∧ w'.cell? ⟨N, 10, none⟩ = some (.int .u64 (tm + 1)) ∧ w'.cell? ⟨N, 43, none⟩ = some (.int .u64 nx2) ∧ w'.cell? ⟨N, 44, none⟩ = some (.int .i64 ns2) ∧ w'.cell? ⟨N, 45, none⟩ = some (.pointer none) ∧
            w'.cell? ⟨L, 6, none⟩ = some (.int .u64 ex2) ∧ w'.cell? ⟨L, 7, none⟩ = some (.int .i64 es2) ∧ w'.cell? ⟨L, 8, none⟩ = some (.pointer none))
          (first | (exact HS) | (exact HS.turn TQ) | go_keep)
          (first
            | (clear k1; go_at_call 11; refine (equal_any y2 s2 y2 s2 t2 t2 true _ hy2 hy2 (by simp)).mono ?_; rintro e w14 ⟨rfl, ht14⟩; replace TQ := TQ.trans ht14)
            | (clear k2; go_at_call 9; refine (add_any y2 s2 t2 le _ hy2 (by omega)).mono ?_; rintro e w14 ⟨x3, s3, rfl, hx3, ht14⟩; replace TQ := TQ.trans ht14)
            | (clear k3; go_at_call 11; refine (equal_any ex2 es2 x3 s3 (t2 + le) (t2 + le) true _ hex2 hx3 (by simp)).mono ?_; rintro e w14 ⟨rfl, ht14⟩; replace TQ := TQ.trans ht14)
            | (clear k4; go_at_call 9; refine (add_any y2 s2 t2 hb _ hy2 (by omega)).mono ?_; rintro e w14 ⟨x4, s4, rfl, hx4, ht14⟩; replace TQ := TQ.trans ht14)
            | (clear k5; go_at_call 11; refine (equal_any nx2 ns2 x4 s4 (t2 + hb) (t2 + hb) true _ hnx2 hx4 (by simp)).mono ?_; rintro e w14 ⟨rfl, ht14⟩; replace TQ := TQ.trans ht14))
        go_wp2_with fail
        go_ret
        exact ⟨rfl, (T13'.trans (TQ.weak (fun _ h => h.elim))).below _ (Nat.le_refl _) (fun i e => by have := HCB.out; have := HNB.out; omega)⟩
    · rw [show decide (le ≤ hx) = true from decide_eq_true hge]
      have lx := HL3.out
      go_upto_region 26 with fail
      go_cut [28] from 137 to 148 (fun v wd => ∃ LB : Nat, v = .pointer (some ⟨LB, 0, none⟩) ∧ Blk wd LB #[.int .u64 2, .int .u64 y2, .int .i64 s2, .pointer none] 59 ∧ Turn (fun _ => False) w12 wd)
      case first =>
        obtain ⟨lx1, lx2, lx3⟩ := lx
        go_region
        go_wp2_with fail
        go_meet
        exact ⟨_, rfl, (Blk.new w12 _ _).drew, ((Turn.refl (fun _ => False) w12).alloc _).drew⟩
      case rest =>
        obtain ⟨LB, rfl, bL, T13⟩ := hcut
        revert bL T13
        generalize wc = w13
        intro bL T13
        have T13' := T12'.trans (T13.weak (fun _ h => h.elim))
        replace c9 := T13.keeps c9
        replace c10 := T13.keeps c10
        replace n43 := T13.keeps n43
        replace n44 := T13.keeps n44
        replace n45 := T13.keeps n45
        replace l6 := T13.keeps l6
        replace l7 := T13.keeps l7
        replace l8 := T13.keeps l8
        replace j0 := T13.keeps j0
        replace j1 := T13.keeps j1
        replace j2 := T13.keeps j2
        have b0 : w13.cell? ⟨LB, 0, none⟩ = some (.int .u64 2) := bL.cell 0 rfl
        have b1 : w13.cell? ⟨LB, 1, none⟩ = some (.int .u64 y2) := bL.cell 1 rfl
        have b2 : w13.cell? ⟨LB, 2, none⟩ = some (.int .i64 s2) := bL.cell 2 rfl
        have b3 : w13.cell? ⟨LB, 3, none⟩ = some (.pointer none) := bL.cell 3 rfl
        have HS : FinS LB TJ N L y2 s2 nx2 ns2 ex2 es2 (tm + 1) w13 := ⟨b0, b1, b2, b3, j0, j1, j2, c9, c10, n43, n44, n45, l6, l7, l8⟩
        have TQ : Turn (fun _ => False) w13 w13.drew := (Turn.refl (fun _ => False) w13).drew
        have wtm : IntKind.u64.wrap (tm + 1) = tm + 1 := by rw [IntKind.wrap_u64]; omega
        have k1 : Hid True := trivial
        have k2 : Hid True := trivial
        have k3 : Hid True := trivial
        have k4 : Hid True := trivial
        have k5 : Hid True := trivial
        clear c42 l0 l1 q0 q1 q2 q3 lx T12' T13 bL J12 HK' HHX HHR HHB HX1 HX2 HLE HVV HET HT1 HT2 HHD HN7 HF
        go_upto_region 27 with fail
        go_region_held3 (fun w' => w'.cell? ⟨LB, 0, none⟩ = some (.int .u64 2) ∧ w'.cell? ⟨LB, 1, none⟩ = some (.int .u64 y2) ∧ w'.cell? ⟨LB, 2, none⟩ = some (.int .i64 s2) ∧ w'.cell? ⟨LB, 3, none⟩ = some (.pointer none) ∧
            w'.cell? ⟨TJ, 0, none⟩ = some (.int .u64 y2) ∧ w'.cell? ⟨TJ, 1, none⟩ = some (.int .i64 s2) ∧ w'.cell? ⟨TJ, 2, none⟩ = some (.pointer none) ∧
            w'.cell? ⟨N, 9, none⟩ = some (.int .i64 2) ∧ w'.cell? ⟨N, 10, none⟩ = some (.int .u64 (tm + 1)) ∧ w'.cell? ⟨N, 43, none⟩ = some (.int .u64 nx2) ∧ w'.cell? ⟨N, 44, none⟩ = some (.int .i64 ns2) ∧ w'.cell? ⟨N, 45, none⟩ = some (.pointer none) ∧
            w'.cell? ⟨L, 6, none⟩ = some (.int .u64 ex2) ∧ w'.cell? ⟨L, 7, none⟩ = some (.int .i64 es2) ∧ w'.cell? ⟨L, 8, none⟩ = some (.pointer none))
          (first | (exact HS) | (exact HS.turn TQ) | go_keep)
          (first
            | (clear k1; go_at_call 11; refine (equal_any y2 s2 y2 s2 t2 t2 true _ hy2 hy2 (by simp)).mono ?_; rintro e w14 ⟨rfl, ht14⟩; replace TQ := TQ.trans ht14)
            | (clear k2; go_at_call 9; refine (add_any y2 s2 t2 le _ hy2 (by omega)).mono ?_; rintro e w14 ⟨x3, s3, rfl, hx3, ht14⟩; replace TQ := TQ.trans ht14)
            | (clear k3; go_at_call 11; refine (equal_any ex2 es2 x3 s3 (t2 + le) (t2 + le) true _ hex2 hx3 (by simp)).mono ?_; rintro e w14 ⟨rfl, ht14⟩; replace TQ := TQ.trans ht14)
            | (clear k4; go_at_call 9; refine (add_any y2 s2 t2 hb _ hy2 (by omega)).mono ?_; rintro e w14 ⟨x4, s4, rfl, hx4, ht14⟩; replace TQ := TQ.trans ht14)
            | (clear k5; go_at_call 11; refine (equal_any nx2 ns2 x4 s4 (t2 + hb) (t2 + hb) true _ hnx2 hx4 (by simp)).mono ?_; rintro e w14 ⟨rfl, ht14⟩; replace TQ := TQ.trans ht14))
        go_wp2_with fail
        go_ret
        exact ⟨rfl, (T13'.trans (TQ.weak (fun _ h => h.elim))).below _ (Nat.le_refl _) (fun i e => by have := HCB.out; have := HNB.out; omega)⟩

end Go.Proofs.Ybulkaubm

import Derived.Test.YbulkaubmPre2
import Derived.Test.YbulkaubmFresh
namespace Go.Proofs.Ybulkaubm
open Go.RowKit Go.ChangeMaps
attribute [local go_sem ↓] Go.wp_at_zero Go.wp_at_succ

theorem peers_len : ∀ m, m ≤ 8 → ∀ i, i < m → ∀ nm, names[i]? = some nm → (peersOf nm (names.take m)).length = m - 1 := by
  intro m hm i hi nm hn
  have h : ∀ m, m < 9 → ∀ i, i < m → (peersOf ((names[i]?).getD ⟨#[]⟩) (names.take m)).length = m - 1 := by decide
  have := h m (by omega) i hi
  rw [hn] at this
  exact this

theorem Turn.keptCell {w w' : World} (ht : Turn (fun _ => False) w w') {p : Addr} {v : Value} (h : w.cell? p = some v) : w'.cell? p = some v := (ht.cell (World.block_lt_of_cell? w p h) id).trans h
/-- What the law's line for the last term reads. -/
def LastS (N TI CB : Nat) (tm nx ns y s : Int) (w' : World) : Prop :=
  w'.cell? ⟨N, 9, none⟩ = some (.int .i64 0) ∧ w'.cell? ⟨N, 10, none⟩ = some (.int .u64 tm) ∧ w'.cell? ⟨N, 29, none⟩ = some (.map none) ∧ w'.cell? ⟨N, 49, none⟩ = some (.int .u64 0) ∧
  w'.cell? ⟨N, 43, none⟩ = some (.int .u64 nx) ∧ w'.cell? ⟨N, 44, none⟩ = some (.int .i64 ns) ∧ w'.cell? ⟨N, 45, none⟩ = some (.pointer none) ∧
  w'.cell? ⟨TI, 0, none⟩ = some (.int .u64 y) ∧ w'.cell? ⟨TI, 1, none⟩ = some (.int .i64 s) ∧ w'.cell? ⟨TI, 2, none⟩ = some (.pointer none) ∧ w'.cell? ⟨CB, 0, none⟩ = some (.int .i64 2)
theorem LastS.turn {N TI CB : Nat} {tm nx ns y s : Int} {w w' : World} (h : LastS N TI CB tm nx ns y s w) (ht : Turn (fun _ => False) w w') : LastS N TI CB tm nx ns y s w' := by
  obtain ⟨a, b, c, d, e, f, g, h, i, j, k⟩ := h
  exact ⟨ht.keptCell a, ht.keptCell b, ht.keptCell c, ht.keptCell d, ht.keptCell e, ht.keptCell f, ht.keptCell g, ht.keptCell h, ht.keptCell i, ht.keptCell j, ht.keptCell k⟩

/-- What the law's last line reads. -/
def ManyS (N TI CB M : Nat) (nm : ByteArray) (tm nx ns y s : Int) (w' : World) : Prop :=
  w'.cell? ⟨N, 9, none⟩ = some (.int .i64 0) ∧ w'.cell? ⟨N, 10, none⟩ = some (.int .u64 tm) ∧ w'.cell? ⟨N, 29, none⟩ = some (.map (some M)) ∧ w'.cell? ⟨N, 42, none⟩ = some (.pointer none) ∧ w'.cell? ⟨N, 49, none⟩ = some (.int .u64 1) ∧
  w'.cell? ⟨N, 43, none⟩ = some (.int .u64 nx) ∧ w'.cell? ⟨N, 44, none⟩ = some (.int .i64 ns) ∧ w'.cell? ⟨N, 45, none⟩ = some (.pointer none) ∧
  w'.cell? ⟨TI, 0, none⟩ = some (.int .u64 y) ∧ w'.cell? ⟨TI, 1, none⟩ = some (.int .i64 s) ∧ w'.cell? ⟨TI, 2, none⟩ = some (.pointer none) ∧ w'.cell? ⟨CB, 0, none⟩ = some (.int .i64 2) ∧ One w' M nm (.bool true)
theorem ManyS.turn {N TI CB M : Nat} {nm : ByteArray} {tm nx ns y s : Int} {w w' : World} (h : ManyS N TI CB M nm tm nx ns y s w) (ht : Turn (fun _ => False) w w') : ManyS N TI CB M nm tm nx ns y s w' := by
  obtain ⟨a, b, c, d, e, f, g, h, i, j, k, l, o⟩ := h
  exact ⟨ht.keptCell a, ht.keptCell b, ht.keptCell c, ht.keptCell d, ht.keptCell e, ht.keptCell f, ht.keptCell g, ht.keptCell h, ht.keptCell i, ht.keptCell j, ht.keptCell k, ht.keptCell l, ht.one o id⟩

theorem msgs_get (k : Int) (nm : ByteArray) (t b : Int) : ∀ (ps : List ByteArray) (j : Nat) (h : j < ps.length) (c : Nat), c < 8 → (msgsOf k nm t b ps)[j * 8 + c]? = (msgC k nm t b ps[j])[c]?
  | [], j, h, _, _ => by simp at h
  | p :: ps, 0, _, c, hc => by
    have hl : (msgC k nm t b p).length = 8 := rfl
    simp only [msgsOf, List.flatMap_cons, Nat.zero_mul, Nat.zero_add, List.getElem_cons_zero]
    rw [List.getElem?_append_left (by omega)]
  | p :: ps, j + 1, h, c, hc => by
    have hl : (msgC k nm t b p).length = 8 := rfl
    have ih := msgs_get k nm t b ps j (by simpa using h) c hc
    simp only [msgsOf, List.flatMap_cons, List.getElem_cons_succ] at ih ⊢
    rw [List.getElem?_append_right (by omega), ← ih]
    congr 1
    omega

theorem peers_at (nm : ByteArray) (l : List ByteArray) (j : Nat) (h : j < l.length) (hne : l[j] ≠ nm) : (peersOf nm l)[(peersOf nm (l.take j)).length]? = some l[j] := by
  have h1 : peersOf nm l = peersOf nm (l.take j) ++ peersOf nm (l.drop j) := by
    unfold peersOf; rw [← List.filter_append, List.take_append_drop]
  have h2 : peersOf nm (l.drop j) = l[j] :: peersOf nm (l.drop (j + 1)) := by
    unfold peersOf; rw [List.drop_eq_getElem_cons h, List.filter_cons_of_pos (by simp [hne])]
  rw [h1, List.getElem?_append_right (Nat.le_refl _), h2, Nat.sub_self, List.getElem?_cons_zero]

theorem peers_skip (nm : ByteArray) (l : List ByteArray) (j : Nat) (h : j < l.length) (he : l[j] = nm) : (peersOf nm (l.take (j + 1))).length = (peersOf nm (l.take j)).length := by
  unfold peersOf; rw [List.take_succ_eq_append_getElem h, List.filter_append]; simp [he]
theorem peers_push (nm : ByteArray) (l : List ByteArray) (j : Nat) (h : j < l.length) (hne : l[j] ≠ nm) : (peersOf nm (l.take (j + 1))).length = (peersOf nm (l.take j)).length + 1 := by
  unfold peersOf; rw [List.take_succ_eq_append_getElem h, List.filter_append]; simp [hne]

set_option maxHeartbeats 4000000 in
set_option maxRecDepth 100000 in
theorem prevote_walk (a0 a1 a2 a3 a4 a5 a6 : Int) (w : World) (h0 : 0 ≤ a0 ∧ a0 ≤ 255) (h1 : 0 ≤ a1 ∧ a1 ≤ 255) (h2 : 0 ≤ a2 ∧ a2 < 4294967296) (h3 : 0 ≤ a3 ∧ a3 < 4294967296) (h4 : 0 ≤ a4 ∧ a4 < 4294967296) (h5 : 0 ≤ a5 ∧ a5 < 4294967296) (h6 : 0 ≤ a6 ∧ a6 < 18446744073709551616) :
    Calls Yba.prog 4 #[.int .u8 a0, .int .u8 a1, .int .u32 a2, .int .u32 a3, .int .u32 a4, .int .u32 a5, .int .u64 a6] w fun e w' => e = .returned (.bool true) ∧ Below w.heap.size w w' := by
  obtain ⟨h00, h01⟩ := h0
  obtain ⟨h10, h11⟩ := h1
  obtain ⟨h20, h21⟩ := h2
  obtain ⟨h30, h31⟩ := h3
  obtain ⟨h40, h41⟩ := h4
  obtain ⟨h50, h51⟩ := h5
  obtain ⟨h60, h61⟩ := h6
  obtain ⟨m, hm, hm1, hm8⟩ : ∃ m : Nat, a0 % 8 + 1 = (m : Int) ∧ 1 ≤ m ∧ m ≤ 8 := ⟨(a0 % 8 + 1).toNat, by omega, by omega, by omega⟩
  obtain ⟨i, hi, him⟩ : ∃ i : Nat, a1 % (m : Int) = (i : Int) ∧ i < m := by
    have e1 := Int.emod_nonneg a1 (show (m : Int) ≠ 0 by omega)
    have e2 := Int.emod_lt_of_pos a1 (show (0 : Int) < m by omega)
    exact ⟨(a1 % (m : Int)).toNat, by omega, by omega⟩
  obtain ⟨et, het, het1, het8⟩ : ∃ et : Nat, (et : Int) = a2 % 1000000 + 8 ∧ et ≤ 2000000 ∧ 8 ≤ et := ⟨(a2 % 1000000 + 8).toNat, by omega, by omega, by omega⟩
  have hmw : 0 < (mwOf et : Nat) := by unfold mwOf; split <;> omega
  have hmw2 : (mwOf et : Nat) ≤ 2000000 := by unfold mwOf; split <;> omega
  obtain ⟨vv, hvv, hvv1⟩ : ∃ vv : Nat, a3 % ((mwOf et : Nat) : Int) = (vv : Int) ∧ vv < 2000000 := by
    have e1 := Int.emod_nonneg a3 (show ((mwOf et : Nat) : Int) ≠ 0 by omega)
    have e2 := Int.emod_lt_of_pos a3 (show (0 : Int) < ((mwOf et : Nat) : Int) by omega)
    exact ⟨(a3 % ((mwOf et : Nat) : Int)).toNat, by omega, by omega⟩
  obtain ⟨ba, hba⟩ : ∃ ba : Nat, a4 = (ba : Int) := ⟨a4.toNat, by omega⟩
  subst hba
  obtain ⟨x1, hx1, hx11⟩ : ∃ x1 : Nat, a5 % 1000 = (x1 : Int) ∧ x1 < 1000 := ⟨(a5 % 1000).toNat, by omega, by omega⟩
  have HX1 : Hid (a5 % 1000 = (x1 : Int)) := hx1
  have HET : Hid ((et : Int) = a2 % 1000000 + 8) := het
  have HVV : Hid (a3 % ((mwOf et : Nat) : Int) = (vv : Int)) := hvv
  clear het hvv hx1
  have hi' : (i : Int) < (m : Int) := by omega
  have him' : (m : Int) ≤ 8 := by omega
  go_enter Yba.func4, Yba.ntmps4
  go_wp2_with fail
  refine (ids_any w).mono ?_
  rintro e w' ⟨rfl, rfl⟩
  have hI := Blk.new w (names.map Value.string).toArray 9
  have hlI := hI.lt
  obtain ⟨nm, hnm, hcn⟩ := name_cell hI (i := i) (by omega)
  go_wp2_with fail
  refine (et_any a2 et _ h20 h21 HET.out).mono ?_
  rintro e w' ⟨rfl, rfl⟩
  go_wp2_with fail
  refine (wait_any et vv a3 _ het1 h30 h31 HVV).mono ?_
  rintro e w' ⟨rfl, rfl⟩
  go_wp2_with fail
  refine (add_any 0 0 0 ba _ isTm0 (by omega)).mono ?_
  rintro e w1 ⟨x, s, rfl, hx, ht1⟩
  rw [Nat.zero_add] at hx
  replace hI := ht1.blk hI id
  have T1 : Turn (fun _ => False) w w1 := ((Turn.refl _ w).alloc _).trans ht1
  have hlI1 := hI.lt
  clear hcn hlI ht1
  go_wp2_with fail
  generalize hIe : w.heap.size = I at hI hlI1 ⊢
  have HIe : Hid (w.heap.size = I) := hIe
  clear hIe
  have bT := (Blk.new w1 #[.int .u64 x, .int .i64 s, .pointer none] 31).alloc (.cells #[.int .i64 0] 3)
  have bC := Blk.new' (w := w1.alloc (.cells #[.int .u64 x, .int .i64 s, .pointer none] 31)) (N := w1.heap.size + 1) (by simp) #[.int .i64 0] 3
  have hI2 := (hI.alloc (.cells #[.int .u64 x, .int .i64 s, .pointer none] 31)).alloc (.cells #[.int .i64 0] 3)
  have T2 := (T1.alloc (.cells #[.int .u64 x, .int .i64 s, .pointer none] 31)).alloc (.cells #[.int .i64 0] 3)
  have hTB : w.heap.size ≤ w1.heap.size := T1.size
  have HTB : Hid (w.heap.size ≤ w1.heap.size) := hTB
  clear hI hlI1 T1 hTB
  revert bT bC hI2 T2 HTB
  generalize (w1.alloc (.cells #[.int .u64 x, .int .i64 s, .pointer none] 31)).alloc (.cells #[.int .i64 0] 3) = w2
  generalize w1.heap.size = TB
  intro bT bC hI2 T2 HTB
  refine (bnew_any nm I m 8 et (TB + 1) (names.take m) 1 a6 x s a3 0 ba w2 bC h30 h31 (by omega) (by omega) hx het1 (by omega) hm8 (by simp [names]; omega) hI2.lt (names_take hI2)).mono ?_
  rintro e w4 ⟨N, rfl, K, V, w3, ⟨gx, gs, fx, fs, dx, ds, ao, pc, G, np, hnp, hd, hN, hpe, hms, hR, hT, hNs⟩, hT2, hs2⟩
  have hI4 := hT.blk (hT2.blk hI2 id) (by have h1 := HIe.out; have h2 := HTB.out; omega)
  have T4 : Turn (fun b => b = TB + 1) w w4 := ((T2.trans hT2).weak (fun _ h => h.elim)).trans hT
  have HCB : Hid (w.heap.size ≤ TB + 1) := by have := HTB.out; show _ ≤ _; omega
  have HNB : Hid (w.heap.size ≤ N) := Nat.le_trans (T2.trans hT2).size hNs
  have HCN : Hid (TB + 1 < N) := Nat.lt_of_lt_of_le (Nat.lt_of_lt_of_le bC.lt hT2.size) hNs
  rw [HVV.out, Int.toNat_natCast] at hd
  clear hT hT2 hs2 bT bC hI2 T2 hNs
  have HF := newNV_fresh nm m et np G 1 a6 gx gs fx fs dx ds K V ao pc
  revert hN HF
  generalize (newNV nm m et np G 1 a6 gx gs fx fs dx ds K V ao pc) = nv
  intro hN HF
  have n0 : w4.cell? ⟨N, 43, none⟩ = some (.int .u64 dx) := by rw [← HF.e_dx]; exact hN.cell 43 rfl
  have n1 : w4.cell? ⟨N, 44, none⟩ = some (.int .i64 ds) := by rw [← HF.e_ds]; exact hN.cell 44 rfl
  have n2 : w4.cell? ⟨N, 45, none⟩ = some (.pointer none) := hN.cell 45 rfl
  have wx1 : IntKind.i64.wrap (x1 : Int) = (x1 : Int) := by rw [IntKind.wrap_i64]; omega
  have tx1 : a5.tmod 1000 = (x1 : Int) := by rw [Int.tmod_eq_emod_of_nonneg h50]; exact HX1.out
  have ux1 : IntKind.u32.wrap (x1 : Int) = (x1 : Int) := by rw [IntKind.wrap_u32]; omega
  go_wp2_with fail
  refine (add_any dx ds (ba + (et + vv)) x1 _ hd (by omega)).mono ?_
  rintro e w5 ⟨y1, s1, rfl, hy1, ht5⟩
  have N5 := ht5.blk hN id
  have R5 := hR.turn ht5 id id id
  have I5 := ht5.blk hI4 id
  have p5 := own_turn hpe ht5 (fun _ _ => id)
  have o5 := own_turn hms ht5 (fun _ _ => id)
  have T5 := T4.trans (ht5.weak (fun _ h => h.elim))
  clear n0 n1 n2 hN hR T4 ht5 hI4 hpe hms
  go_upto_region 11 with fail
  have T6a := (Turn.refl (fun _ => False) w5).alloc (.cells #[.int .u64 y1, .int .i64 s1, .pointer none] 31)
  have bI := Blk.new w5 #[.int .u64 y1, .int .i64 s1, .pointer none] 31
  have N6 := T6a.blk N5 id
  have R6 := R5.turn T6a id id id
  have I6 := T6a.blk I5 id
  have p6 := own_turn p5 T6a (fun _ _ => id)
  have o6 := own_turn o5 T6a (fun _ _ => id)
  have T6 := T5.alloc (.cells #[.int .u64 y1, .int .i64 s1, .pointer none] 31)
  clear N5 R5 T5 I5 p5 o5 T6a
  revert bI N6 R6 I6 p6 o6 T6
  generalize w5.alloc (.cells #[.int .u64 y1, .int .i64 s1, .pointer none] 31) = w6
  generalize w5.heap.size = TI
  intro bI N6 R6 I6 p6 o6 T6
  obtain ⟨i0, i1, i2, _, _, _⟩ := bI.cells3
  obtain ⟨t1, ht1⟩ : ∃ t1, t1 = ba + (et + vv) + x1 := ⟨_, rfl⟩
  rw [← ht1] at hy1
  have HT1 : Hid (t1 = ba + (et + vv) + x1) := ht1
  have h1b : t1 ≤ 10000000000 := by omega
  have h10' : 0 < t1 := by omega
  have h1d : ba + (et + vv) ≤ t1 := by omega
  clear ht1
  have wN := HF.e_won
  go_wp2_with fail
  by_cases hlast : a6 = 18446744073709551615
  · refine (tick_pre N nv y1 s1 t1 (ba + (et + vv)) w6 N6 hy1 (by rw [HF.e_dx, HF.e_ds]; exact hd) h1d wN none 0 0 (fun w' => ∃ w0, Turn (fun _ => False) w6 w0 ∧ LastP w0 w' N K V (TB + 1) a3 1 nv (t1 + (et + vv)))
      (fun w1 htw => (pre_last N K V (TB + 1) nv a3 1 y1 s1 t1 et w1 (htw.blk N6 id) (R6.turn htw id id id) HF.e_rnd hy1 h30 h31 (by decide) (by decide) (by rw [HF.e_mw]; omega) (by rw [HF.e_mw]; omega) HF.e_et (by omega) (by omega) HF.e_role HF.e_votes (HF.e_term.trans hlast)).mono (fun e w' h => ⟨h.1, w1, htw, by have := h.2; rw [HF.e_mw, HVV.out, Int.toNat_natCast] at this; exact this⟩))).mono ?_
    rintro e w7 ⟨rfl, w0, htw, dx2, ds2, hd2, N7, R7, T7⟩
    have T7a : Turn (fun b => b = N ∨ b = TB + 1) w6 w7 := (htw.weak (fun _ h => h.elim)).trans T7
    have bI7 := T7a.blk bI (by rintro (e | e); exact bI.ne N6 (by decide) e; exact bI.ne R6.c (by decide) e)
    have T7' : Turn (fun b => b = TB + 1 ∨ b = N) w w7 := (T6.weak (fun _ h => Or.inl h)).trans (T7a.weak (fun _ h => h.symm))
    have HWV : Hid (IntKind.i64.wrap ((et : Int) + vv) = (et : Int) + vv) := by show _ = _; rw [IntKind.wrap_i64]; omega
    have c9 : w7.cell? ⟨N, 9, none⟩ = some (.int .i64 0) := N7.cell 9 rfl
    have c10 : w7.cell? ⟨N, 10, none⟩ = some (.int .u64 a6) := by rw [← HF.e_term]; exact N7.cell 10 rfl
    have c29 : w7.cell? ⟨N, 29, none⟩ = some (.map none) := N7.cell 29 rfl
    have c49 : w7.cell? ⟨N, 49, none⟩ = some (.int .u64 0) := by rw [← HF.e_c0]; exact N7.cell 49 rfl
    have n43 : w7.cell? ⟨N, 43, none⟩ = some (.int .u64 dx2) := N7.cell 43 rfl
    have n44 : w7.cell? ⟨N, 44, none⟩ = some (.int .i64 ds2) := N7.cell 44 rfl
    have n45 : w7.cell? ⟨N, 45, none⟩ = some (.pointer none) := N7.cell 45 rfl
    have k0 : w7.cell? ⟨TB + 1, 0, none⟩ = some (.int .i64 2) := R7.c.cell 0 rfl
    clear i0 i1 i2
    obtain ⟨i0, i1, i2, _, _, _⟩ := bI7.cells3
    have e1 := fun (w : World) => run_eql_map_nil (P := Yba.prog) w 41 9 4 none Yba.underlying41
    have e2 := fun (w : World) => Lib.run_eql_slice_nil_nil (P := Yba.prog) w (t := 45) (e := 40) 0 0 Yba.underlying45
    simp only [Option.isNone_none] at e1
    have HS : LastS N TI (TB + 1) a6 dx2 ds2 y1 s1 w7 := ⟨c9, c10, c29, c49, n43, n44, n45, i0, i1, i2, k0⟩
    have hE : (a6 == 18446744073709551615) = true := beq_iff_eq.2 hlast
    clear hlast h60 h61
    go_upto_region 13 with fail
    clear hE
    have TQ : Turn (fun _ => False) w7 w7.drew := (Turn.refl (fun _ => False) w7).drew
    have k1 : Hid True := trivial
    have k2 : Hid True := trivial
    have wev := HWV.out
    clear N7 R7 T7 T7a N6 R6 I6 p6 o6 T6 bI bI7 HF htw hm hi hnm hnp
    go_region_held3 (fun w' => w'.cell? ⟨N, 9, none⟩ = some (.int .i64 0) ∧ w'.cell? ⟨N, 10, none⟩ = some (.int .u64 a6) ∧ w'.cell? ⟨N, 29, none⟩ = some (.map none) ∧ w'.cell? ⟨N, 49, none⟩ = some (.int .u64 0) ∧
        w'.cell? ⟨N, 43, none⟩ = some (.int .u64 dx2) ∧ w'.cell? ⟨N, 44, none⟩ = some (.int .i64 ds2) ∧ w'.cell? ⟨N, 45, none⟩ = some (.pointer none) ∧
        w'.cell? ⟨TI, 0, none⟩ = some (.int .u64 y1) ∧ w'.cell? ⟨TI, 1, none⟩ = some (.int .i64 s1) ∧ w'.cell? ⟨TI, 2, none⟩ = some (.pointer none) ∧ w'.cell? ⟨TB + 1, 0, none⟩ = some (.int .i64 2))
      (first | (exact HS) | (exact HS.turn TQ) | go_keep)
      (first
        | (clear k1; go_at_call 9; refine (add_any y1 s1 t1 (et + vv) _ hy1 (by omega)).mono ?_; rintro e w14 ⟨x3, s3, rfl, hx3, ht14⟩; replace TQ := TQ.trans ht14)
        | (clear k2; go_at_call 11; refine (equal_any dx2 ds2 x3 s3 (t1 + (et + vv)) (t1 + (et + vv)) true _ hd2 hx3 (by simp)).mono ?_; rintro e w14 ⟨rfl, ht14⟩; replace TQ := TQ.trans ht14))
    go_wp2_with fail
    go_ret
    exact ⟨rfl, (T7'.trans (TQ.weak (fun _ h => h.elim))).below _ (Nat.le_refl _) (fun i e => by have := HCB.out; have := HNB.out; omega)⟩
  · have htm1 : a6 < 18446744073709551615 := by omega
    have hnpm : np = m - 1 := hnp.trans (peers_len m hm8 i him nm hnm)
    by_cases hm2 : m = 1
    · subst hm2
      obtain rfl : np = 0 := hnpm
      have hle0 : 1 ≤ leaseOf et := by unfold leaseOf; omega
      have hle1 : leaseOf et ≤ 1000000000 := by unfold leaseOf; omega
      refine (tick_pre N nv y1 s1 t1 (ba + (et + vv)) w6 N6 hy1 (by rw [HF.e_dx, HF.e_ds]; exact hd) h1d wN (some ⟨G, 0, none⟩) 0 0 (fun w' => ∃ w0, Turn (fun _ => False) w6 w0 ∧ LoneP w0 w' N K V (TB + 1) a3 1 nv nm y1 s1 t1 (leaseOf et) 1)
        (fun w1 htw => (pre_lone N K V (TB + 1) G pc ao nv nm a3 1 y1 s1 t1 et (leaseOf et) 1 w1 (htw.blk N6 id) (R6.turn htw id id id) HF.e_rnd hy1 h10' h30 h31 (by decide) (by decide) (by rw [HF.e_mw]; omega) (by rw [HF.e_mw]; omega) HF.e_et (by omega) (by omega) HF.e_role HF.e_votes (by rw [HF.e_term]; exact h60) (by rw [HF.e_term]; exact htm1) wN (by rw [HF.e_c0]; decide) (by rw [HF.e_c0]; decide) (by rw [HF.e_c1]; decide) (by rw [HF.e_c1]; decide) (by rw [HF.e_quorum]; decide) HF.e_id HF.e_lease HF.e_hb hle0 hle1 HF.e_msgs HF.e_peers).mono (fun e w' h => ⟨h.1, w1, htw, h.2⟩))).mono ?_
      rintro e w7 ⟨rfl, w0, htw, L, A, v2, nx, ns, ex, es, rf, gL, gA, hnx, hex, hL, ho, N7, hA, R7, T7⟩
      have T7a : Turn (fun b => b = N ∨ b = TB + 1) w6 w7 := (htw.weak (fun _ h => h.elim)).trans T7
      have T7' : Turn (fun b => b = TB + 1 ∨ b = N) w w7 := (T6.weak (fun _ h => Or.inl h)).trans (T7a.weak (fun _ h => h.symm))
      have c9 : w7.cell? ⟨N, 9, none⟩ = some (.int .i64 2) := N7.cell 9 rfl
      have c10 : w7.cell? ⟨N, 10, none⟩ = some (.int .u64 (a6 + 1)) := by rw [← HF.e_term]; exact N7.cell 10 rfl
      have c11 : w7.cell? ⟨N, 11, none⟩ = some (.string nm) := N7.cell 11 rfl
      have c42 : w7.cell? ⟨N, 42, none⟩ = some (.pointer (some ⟨L, 0, none⟩)) := N7.cell 42 rfl
      have c49 : w7.cell? ⟨N, 49, none⟩ = some (.int .u64 1) := by have h : w7.cell? ⟨N, 49, none⟩ = some (.int .u64 (nv.c0 + 1)) := N7.cell 49 rfl; rw [HF.e_c0] at h; exact h
      have c50 : w7.cell? ⟨N, 50, none⟩ = some (.int .u64 1) := by have h : w7.cell? ⟨N, 50, none⟩ = some (.int .u64 (nv.c1 + 1)) := N7.cell 50 rfl; rw [HF.e_c1] at h; exact h
      have l1 : w7.cell? ⟨L, 1, none⟩ = some (.int .u64 1) := hL.cell 1 rfl
      have k0 : w7.cell? ⟨TB + 1, 0, none⟩ = some (.int .i64 3) := R7.c.cell 0 rfl
      have wtm : IntKind.u64.wrap (a6 + 1) = a6 + 1 := by rw [IntKind.wrap_u64]; omega
      have hE : (a6 == 18446744073709551615) = false := beq_eq_false_iff_ne.2 hlast
      clear hlast h60 h61 htm1 i0 i1 i2 N7 R7 T7 T7a N6 R6 I6 p6 o6 T6 bI HF htw hm hi hnm hnp hL ho hA
      go_wp2_with fail
      go_ret
      exact ⟨rfl, T7'.below _ (Nat.le_refl _) (fun i e => by have := HCB.out; have := HNB.out; omega)⟩
    · have hm3 : 2 ≤ m := by omega
      obtain ⟨ps, hps⟩ : ∃ ps, peersOf nm (names.take m) = ps := ⟨_, rfl⟩
      rw [hps] at p6 hnp
      have hqu : 1 < nv.quorum := by rw [HF.e_quorum]; omega
      refine (tick_pre2 N nv y1 s1 t1 (ba + (et + vv)) w6 N6 hy1 (by rw [HF.e_dx, HF.e_ds]; exact hd) h1d wN np (fun ra rc w' => ∃ w0, Turn (fun _ => False) w6 w0 ∧ ManyP w0 w' N K V (TB + 1) a3 1 nv nm ps y1 s1 (t1 + (et + vv)) np ra rc)
        (fun w1 htw => (pre_many N K V (TB + 1) G np pc ao nv nm ps a3 1 y1 s1 t1 et w1 (htw.blk N6 id) (R6.turn htw id id id) HF.e_rnd hy1 h30 h31 (by decide) (by decide) (by rw [HF.e_mw]; omega) (by rw [HF.e_mw]; omega) HF.e_et (by omega) (by omega) HF.e_role HF.e_votes (by rw [HF.e_term]; exact h60) (by rw [HF.e_term]; exact htm1) (by rw [HF.e_c0]; decide) (by rw [HF.e_c0]; decide) hqu HF.e_id HF.e_msgs HF.e_peers hnp.symm (by omega) (own_turn p6 htw (fun _ _ => id)) (own_turn o6 htw (fun _ _ => id)) (Nat.le_of_lt HCN.out)).mono (fun e w' h => by
          obtain ⟨ra, rc, h1, h2⟩ := h
          rw [HF.e_mw, HVV.out, Int.toNat_natCast] at h2
          exact ⟨ra, rc, h1, w1, htw, h2⟩))).mono ?_
      rintro e w7 ⟨ra, rc, rfl, w0, htw, dx2, ds2, M, R, hd2, N7, M7, o7, R7, T7⟩
      have bI0 := htw.blk bI id
      have I0 := htw.blk I6 id
      have N0 := htw.blk N6 id
      have R0 := R6.turn htw id id id
      have bI7 := T7.blk bI0 (by rintro (e | e | e); exact bI0.ne N0 (by decide) e; exact bI0.ne R0.c (by decide) e; exact T40.notBlk bI0 (by decide) e)
      have I7 := T7.blk I0 (by rintro (e | e | e); exact I0.ne N0 (by decide) e; exact I0.ne R0.c (by decide) e; exact T40.notBlk I0 (by decide) e)
      have T7' : Turn (fun b => b = TB + 1 ∨ N ≤ b) w w7 := ((T6.trans (htw.weak (fun _ h => h.elim))).weak (fun _ h => Or.inl h)).trans (T7.weak (fun b h => by rcases h with h | h | h; exact Or.inr (Nat.le_of_eq h.symm); exact Or.inl h; exact Or.inr (Nat.le_of_succ_le h.1)))
      have HWV : Hid (IntKind.i64.wrap ((et : Int) + vv) = (et : Int) + vv) := by show _ = _; rw [IntKind.wrap_i64]; omega
      have c9 : w7.cell? ⟨N, 9, none⟩ = some (.int .i64 0) := N7.cell 9 rfl
      have c10 : w7.cell? ⟨N, 10, none⟩ = some (.int .u64 a6) := by rw [← HF.e_term]; exact N7.cell 10 rfl
      have c29 : w7.cell? ⟨N, 29, none⟩ = some (.map (some M)) := N7.cell 29 rfl
      have c42 : w7.cell? ⟨N, 42, none⟩ = some (.pointer none) := by rw [← HF.e_won]; exact N7.cell 42 rfl
      have c49 : w7.cell? ⟨N, 49, none⟩ = some (.int .u64 1) := by have h : w7.cell? ⟨N, 49, none⟩ = some (.int .u64 (nv.c0 + 1)) := N7.cell 49 rfl; rw [HF.e_c0] at h; exact h
      have n43 : w7.cell? ⟨N, 43, none⟩ = some (.int .u64 dx2) := N7.cell 43 rfl
      have n44 : w7.cell? ⟨N, 44, none⟩ = some (.int .i64 ds2) := N7.cell 44 rfl
      have n45 : w7.cell? ⟨N, 45, none⟩ = some (.pointer none) := N7.cell 45 rfl
      have k0 : w7.cell? ⟨TB + 1, 0, none⟩ = some (.int .i64 2) := R7.c.cell 0 rfl
      clear i0 i1 i2
      obtain ⟨i0, i1, i2, _, _, _⟩ := bI7.cells3
      have HS : ManyS N TI (TB + 1) M nm a6 dx2 ds2 y1 s1 w7 := ⟨c9, c10, c29, c42, c49, n43, n44, n45, i0, i1, i2, k0, M7⟩
      have hE : (a6 == 18446744073709551615) = false := beq_eq_false_iff_ne.2 hlast
      have hE2 : ((m : Int) == 1) = false := beq_eq_false_iff_ne.2 (by omega)
      have wnp : IntKind.i64.wrap ((m : Int) - 1) = (np : Int) := by rw [IntKind.wrap_i64]; omega
      rw [HF.e_term] at o7
      have HPS : Hid (peersOf nm (names.take m) = ps) := hps
      have HNP : Hid (np = ps.length) := hnp
      have HM2 : Hid (np = m - 1 ∧ 2 ≤ m) := ⟨hnpm, hm3⟩
      have HTM : Hid (0 ≤ a6 ∧ a6 < 18446744073709551615) := ⟨h60, htm1⟩
      clear hlast h60 h61 htm1 N7 R7 T7 N6 R6 I6 p6 o6 T6 bI HF htw hm hi hnm hnp bI0 I0 N0 R0 c9 c10 c29 c42 c49 n43 n44 n45 i0 i1 i2 k0 bI7 hps hnpm hqu hm2
      obtain ⟨g, gc, hgv⟩ := own_form o7 (by have := HM2.out; omega)
      cases hgv
      go_wp2_with fail
      go_loopw [26, 195] (fun k i wr => ∃ j : Nat, j ≤ m ∧ i = .int .i64 j ∧ k = .int .i64 (peersOf nm ((names.take m).take j)).length ∧ Turn (fun _ => False) w7 wr) (fun _ i _ => m - (intOf i).toNat)
      case atStart => exact ⟨0, Nat.zero_le _, rfl, rfl, Turn.refl _ w7⟩
      case round =>
        obtain ⟨j, hj, rfl, rfl, htr⟩ := hrel
        by_cases hlt : j < m
        · have hlt' : (j : Int) < (m : Int) := by omega
          have hjl : j < (names.take m).length := by simp [names]; omega
          have hc := htr.keptCell (names_take I7 j hjl)
          by_cases hs : (names.take m)[j] = nm
          · go_wp2_with fail
            go_roundw
            case rel => exact ⟨j + 1, by omega, by go_num, by rw [peers_skip nm _ j hjl hs], htr⟩
            case measure => simp [intOf]; omega
          · have hat := peers_at nm (names.take m) j hjl hs
            have hpu := peers_push nm (names.take m) j hjl hs
            rw [HPS.out] at hat
            obtain ⟨p, hp⟩ : ∃ p, (names.take m)[j] = p := ⟨_, rfl⟩
            rw [hp] at hat hc hs
            obtain ⟨kk, hkk⟩ : ∃ kk, (peersOf nm ((names.take m).take j)).length = kk := ⟨_, rfl⟩
            rw [hkk] at hat hpu
            have hkl : kk < ps.length := (List.getElem?_eq_some_iff.1 hat).1
            have hkn : (kk : Int) < (np : Int) := by have := HNP.out; omega
            have hpk : ps[kk] = p := (List.getElem?_eq_some_iff.1 hat).2
            have hget := fun c (hc : c < 8) => (o7.cellAt (kk * 8 + c) (by have := HNP.out; omega)).trans (msgs_get 5 nm (a6 + 1) 0 ps kk hkl c hc)
            rw [hpk] at hget
            have q0 : wr.cell? ⟨g, kk * 8, none⟩ = some (.int .u8 5) := htr.keptCell (hget 0 (by decide))
            have q1 : wr.cell? ⟨g, kk * 8 + 1, none⟩ = some (.string nm) := htr.keptCell (hget 1 (by decide))
            have q2 : wr.cell? ⟨g, kk * 8 + 2, none⟩ = some (.string p) := htr.keptCell (hget 2 (by decide))
            have q3 : wr.cell? ⟨g, kk * 8 + 3, none⟩ = some (.int .u64 (a6 + 1)) := htr.keptCell (hget 3 (by decide))
            have q4 : wr.cell? ⟨g, kk * 8 + 4, none⟩ = some (.bool false) := htr.keptCell (hget 4 (by decide))
            have q5 : wr.cell? ⟨g, kk * 8 + 5, none⟩ = some (.int .u64 0) := htr.keptCell (hget 5 (by decide))
            have q6 : wr.cell? ⟨g, kk * 8 + 6, none⟩ = some (.int .i64 0) := htr.keptCell (hget 6 (by decide))
            have q7 : wr.cell? ⟨g, kk * 8 + 7, none⟩ = some (.string ⟨#[]⟩) := htr.keptCell (hget 7 (by decide))
            have hs' := toList_ne hs
            rw [hkk]
            have HPU : Hid ((peersOf nm (List.take (j + 1) (names.take m))).length = kk + 1) := hpu
            clear hpu hat hget hpk hp hkk
            have wtm : IntKind.u64.wrap (a6 + 1) = a6 + 1 := by have := HTM.out; rw [IntKind.wrap_u64]; omega
            have wkk : IntKind.i64.wrap ((kk : Int) + 1) = ((kk + 1 : Nat) : Int) := by have := HNP.out; have := HM2.out; rw [IntKind.wrap_i64]; omega
            go_wp2_with fail
            go_roundw
            case rel => exact ⟨j + 1, by omega, by go_num, by rw [HPU.out]; go_num, htr.alloc _⟩
            case measure => simp [intOf]; omega
        · obtain rfl : j = m := by omega
          have HSr := HS.turn htr
          obtain ⟨c9, c10, c29, c42, c49, n43, n44, n45, i0, i1, i2, k0, Mr⟩ := id HSr
          have hl := fun (w' : World) (h : One w' M nm (.bool true)) => run_len1 41 4 3 w' M nm (.bool true) Yba.underlying41 h
          have hk := fun (w' : World) (h : One w' M nm (.bool true)) => run_look1 41 4 w' M nm (.bool true) Yba.underlying41 h
          have Tr := T7'.trans (htr.weak (fun _ h => h.elim))
          go_upto_region 28 with fail
          have TQ : Turn (fun _ => False) wr wr.drew := (Turn.refl (fun _ => False) wr).drew
          have k1 : Hid True := trivial
          have k2 : Hid True := trivial
          have wev := HWV.out
          clear o7 I7 HS htr T7' M7 hE hE2 wnp
          go_region_held3 (fun w' => w'.cell? ⟨N, 9, none⟩ = some (.int .i64 0) ∧ w'.cell? ⟨N, 10, none⟩ = some (.int .u64 a6) ∧ w'.cell? ⟨N, 29, none⟩ = some (.map (some M)) ∧ w'.cell? ⟨N, 42, none⟩ = some (.pointer none) ∧ w'.cell? ⟨N, 49, none⟩ = some (.int .u64 1) ∧
              w'.cell? ⟨N, 43, none⟩ = some (.int .u64 dx2) ∧ w'.cell? ⟨N, 44, none⟩ = some (.int .i64 ds2) ∧ w'.cell? ⟨N, 45, none⟩ = some (.pointer none) ∧
              w'.cell? ⟨TI, 0, none⟩ = some (.int .u64 y1) ∧ w'.cell? ⟨TI, 1, none⟩ = some (.int .i64 s1) ∧ w'.cell? ⟨TI, 2, none⟩ = some (.pointer none) ∧ w'.cell? ⟨TB + 1, 0, none⟩ = some (.int .i64 2) ∧ One w' M nm (.bool true))
            (first | (exact HSr) | (exact HSr.turn TQ) | go_keep)
            (first
              | (clear k1; go_at_call 9; refine (add_any y1 s1 t1 (et + vv) _ hy1 (by omega)).mono ?_; rintro e w14 ⟨x3, s3, rfl, hx3, ht14⟩; replace TQ := TQ.trans ht14)
              | (clear k2; go_at_call 11; refine (equal_any dx2 ds2 x3 s3 (t1 + (et + vv)) (t1 + (et + vv)) true _ hd2 hx3 (by simp)).mono ?_; rintro e w14 ⟨rfl, ht14⟩; replace TQ := TQ.trans ht14))
          go_wp2_with fail
          go_ret
          exact ⟨rfl, (Tr.trans (TQ.weak (fun _ h => h.elim))).below _ (Nat.le_refl _) (fun i e => by have := HCB.out; have := HNB.out; omega)⟩

end Go.Proofs.Ybulkaubm

import Derived.Test.YbulkaubmLead
namespace Go.Proofs.Ybulkaubm
open Go.RowKit Go.ChangeMaps

/-- One entry set in a new map, outside of a drawn region. -/
theorem insP (w : World) (nm : ByteArray) (v : Value) : (Instr.mapUpdate 41 (.map (some w.heap.size)) (.string nm) v).run Yba.prog (w.alloc (.map #[] 0)) = .ok () (w.alloc (mone nm v)) := by
  have := run_first 41 _ (w.alloc (.map #[] 0)) w.heap.size nm v rfl (Holds1.new' rfl _)
  rw [put_alloc] at this
  exact this

/-- The node has won: what campaign and preCampaign of a lone member leave. -/
def CampP (w w' : World) (N K V CB : Nat) (v cnt : Int) (nv : NV) (nm : ByteArray) (x s : Int) (t le hb : Nat) : Prop :=
  ∃ L A v2 nx ns ex es, w.heap.size ≤ L ∧ w.heap.size ≤ A ∧ IsTm nx ns (t + hb) ∧ IsTm ex es (t + le) ∧
    Blk w' L { beats := v2, count := 1, acked := .map (some A), nx := nx, ns := ns, ex := ex, en := es, rx := x, rs := s : LV }.cells 56 ∧
    w'.ownsRow (L + 1) 59 4 v2 1 [.int .u64 1, .int .u64 x, .int .i64 s, .pointer none] ∧
    Blk w' N { nv with role := 2, term := nv.term + 1, votedFor := nm, leader := nm, votes := .map none, won := .pointer (some ⟨L, 0, none⟩), dx := nx, ds := ns, c1 := nv.c1 + 1 }.cells 49 ∧ One w' A nm (tval x s) ∧
    Rnd w' K V CB v (cnt + 1) ∧ Turn (fun b => b = N ∨ b = CB) w w'

set_option maxHeartbeats 2000000 in
theorem camp_any (N K V CB G pc : Nat) (ao : Option Addr) (nv : NV) (nm : ByteArray) (v cnt x s : Int) (t et le hb : Nat) (w : World) (hN : Blk w N nv.cells 49) (h : Rnd w K V CB v cnt) (hr : nv.rnd = .func (.func 18) #[] #[.pointer (some ⟨K, 0, none⟩), .pointer (some ⟨V, 0, none⟩)])
    (ht : IsTm x s t) (h0 : 0 < t) (hv : 0 ≤ v) (hv1 : v < 4294967296) (hc : 0 ≤ cnt) (hc1 : cnt ≤ 100) (hmw : 0 < nv.mw) (hmw1 : nv.mw ≤ 1000000000) (he : nv.et = et) (he1 : et ≤ 1000000000) (htb : t ≤ 100000000000000)
    (hax : nv.ax = x) (hay : nv.ay = s) (htm : 0 ≤ nv.term) (htm1 : nv.term < 18446744073709551615) (hw : nv.won = .pointer none) (hn0 : 0 ≤ nv.c1) (hn1 : nv.c1 ≤ 100)
    (hq : nv.quorum = 1) (hid : nv.id = nm) (hle : nv.lease = le) (hhb : nv.hb = hb) (hhl : hb ≤ le) (hlb : le ≤ 1000000000)
    (hm : nv.msgs = .slice (some ⟨G, 0, none⟩) 0 0) (hp : nv.peers = .slice ao 0 pc) :
    Calls Yba.prog 31 #[.pointer (some ⟨N, 0, none⟩), .agg #[.int .u64 x, .int .i64 s, .pointer none]] w fun e w' => e = .returned (.slice (some ⟨G, 0, none⟩) 0 0) ∧ CampP w w' N K V CB v cnt nv nm x s t le hb := by
  have lN := hN.lt
  have b0 := Blk.new w #[.int .u64 x, .int .i64 s, .pointer none] 31
  have N1 := hN.alloc (.cells #[.int .u64 x, .int .i64 s, .pointer none] 31)
  have R1 := h.turn ((Turn.refl (fun _ => False) w).alloc (.cells #[.int .u64 x, .int .i64 s, .pointer none] 31)) id id id
  have T1 := (Turn.refl (fun b => b = N ∨ b = CB) w).alloc (.cells #[.int .u64 x, .int .i64 s, .pointer none] 31)
  have hne : N ≠ CB := hN.ne h.c (by decide)
  go_enter Yba.func31, Yba.ntmps31
  go_upto_region 1 with fail
  revert b0 N1 R1 T1
  generalize w.alloc (.cells #[.int .u64 x, .int .i64 s, .pointer none] 31) = w1
  generalize w.heap.size = B
  intro b0 N1 R1 T1
  have hBN : B ≠ N := b0.ne N1 (by decide)
  have hB : B ≠ CB := b0.ne R1.c (by decide)
  go_cut [] from 5 to 13 (fun wd => Blk wd N nv.cells 49 ∧ Rnd wd K V CB v cnt ∧ Blk wd B #[.int .u64 x, .int .i64 s, .pointer none] 31 ∧ Turn (fun b => b = N ∨ b = CB) w wd)
  case first =>
    obtain ⟨a0, a1, a2, _, _, _⟩ := b0.cells3
    have n36 : w1.cell? ⟨N, 36, none⟩ = some (.int .u64 x) := by rw [← hax]; exact N1.cell 36 rfl
    have n37 : w1.cell? ⟨N, 37, none⟩ = some (.int .i64 s) := by rw [← hay]; exact N1.cell 37 rfl
    have n38 : w1.cell? ⟨N, 38, none⟩ = some (.pointer none) := N1.cell 38 rfl
    go_region_with (first | (go_at_call 39; refine (sub_same x s t _ ht).mono ?_; rintro e w2 ⟨rfl, ht2⟩; have N2 := ht2.blk N1.drew id; have k2 : w2.cell? ⟨N, 40, none⟩ = some (.int .i64 0) := N2.cell 40 rfl; have k3 := N2.frozen 40) | fail)
    all_goals
      go_wp2_with fail
      go_meet
      have T2 : Turn (· = N) w2 (w2.setCell ⟨N, 40, none⟩ (.int .i64 0)) := (Turn.refl (· = N) w2).setN rfl _ _
      have R2 := (R1.turn (Turn.refl (fun _ => False) _).drew id id id).turn ht2 id id id
      exact ⟨N2.k40, R2.turn T2 (R2.k.ne N2 (by decide)) (R2.v.ne N2 (by decide)) (R2.c.ne N2 (by decide)), T2.blk (ht2.blk b0.drew id) hBN, (T1.drew.trans (ht2.weak (fun _ h => h.elim))).trans (T2.weak (fun _ h => Or.inl h))⟩
  case rest =>
    obtain ⟨N2, R2, b2, T2⟩ := hcut
    revert N2 R2 b2 T2
    generalize wc = w2
    intro N2 R2 b2 T2
    go_upto_region 2 with fail
    go_cut [] from 14 to 21 (fun wd => Blk wd N (adopted nv (nv.term + 1)).cells 49 ∧ Rnd wd K V CB v cnt ∧ Blk wd B #[.int .u64 x, .int .i64 s, .pointer none] 31 ∧ Turn (fun b => b = N ∨ b = CB) w wd)
    case first =>
      obtain ⟨a0, a1, a2, _, _, _⟩ := b2.cells3
      have n10 : w2.cell? ⟨N, 10, none⟩ = some (.int .u64 nv.term) := N2.cell 10 rfl
      have HW : IntKind.u64.wrap (nv.term + 1) = nv.term + 1 := by rw [IntKind.wrap_u64]; omega
      go_region_with (first | (go_at_call 29; refine (adopt_any N nv x s (nv.term + 1) _ N2.drew hw).mono ?_; rintro e w3 ⟨rfl, N3, T3⟩) | fail)
      all_goals
        go_wp2_with fail
        go_meet
        have R2' := R2.turn (Turn.refl (fun _ => False) _).drew id id id
        exact ⟨N3, R2'.turn T3 (R2.k.ne N2 (by decide)) (R2.v.ne N2 (by decide)) (R2.c.ne N2 (by decide)), T3.blk b2.drew hBN, T2.drew.trans (T3.weak (fun _ h => Or.inl h))⟩
    case rest =>
      obtain ⟨N3, R3, b3, T3⟩ := hcut
      revert N3 R3 b3 T3
      generalize wc = w3
      generalize hnv : adopted nv (nv.term + 1) = nv3
      intro N3 R3 b3 T3
      clear N1 R1 b0 T1 N2 R2 b2 T2
      have c0 : w3.cell? ⟨N, 0, none⟩ = some (.string nm) := by rw [← hid]; subst hnv; exact N3.cell 0 rfl
      have c9 : w3.cell? ⟨N, 9, none⟩ = some (.int .i64 nv3.role) := N3.cell 9 rfl
      have c11 : w3.cell? ⟨N, 11, none⟩ = some (.string nv3.votedFor) := N3.cell 11 rfl
      have f9 := N3.frozen 9
      have f11 := N3.frozen 11
      go_upto_region 4 with fail
      have N4 := (N3.role 1).votedFor nm
      have T4' : Turn (· = N) w3 ((w3.setCell ⟨N, 9, none⟩ (.int .i64 1)).setCell ⟨N, 11, none⟩ (.string nm)) := ((Turn.refl (· = N) w3).setN rfl _ _).setN rfl _ _
      have R4 := R3.turn T4' (R3.k.ne N3 (by decide)) (R3.v.ne N3 (by decide)) (R3.c.ne N3 (by decide))
      have b4 := T4'.blk b3 hBN
      have T4 := T3.trans (T4'.weak (fun _ h => Or.inl h))
      clear c0 c9 c11 f9 f11 T4'
      revert N4 R4 b4 T4
      generalize (w3.setCell ⟨N, 9, none⟩ (.int .i64 1)).setCell ⟨N, 11, none⟩ (.string nm) = w4
      generalize hnv4 : { nv3 with role := 1, votedFor := nm } = nv4
      intro N4 R4 b4 T4
      clear N3 R3 b3 T3
      have lN4 := N4.lt
      have c0 : w4.cell? ⟨N, 0, none⟩ = some (.string nm) := by rw [← hid]; subst hnv4; subst hnv; exact N4.cell 0 rfl
      have c29 : w4.cell? ⟨N, 29, none⟩ = some nv4.votes := N4.cell 29 rfl
      have c50 : w4.cell? ⟨N, 50, none⟩ = some (.int .u64 nv4.c1) := N4.cell 50 rfl
      have f29 := N4.frozen 29
      have f50 := N4.frozen 50
      have hmm := @run_makeMap Yba.prog
      have i0 := insP
      go_upto_region 6 with fail
      have e1 : nv4.c1 = nv.c1 := by subst hnv4; subst hnv; rfl
      have HW : IntKind.u64.wrap (nv4.c1 + 1) = nv.c1 + 1 := by rw [IntKind.wrap_u64, e1]; omega
      rw [HW]
      have N5 := ((N4.votes (.map (some w4.heap.size))).c1 (nv.c1 + 1)).alloc (mone nm (.bool true))
      have M5 : One (((w4.setCell ⟨N, 29, none⟩ (.map (some w4.heap.size))).setCell ⟨N, 50, none⟩ (.int .u64 (nv.c1 + 1))).alloc (mone nm (.bool true))) w4.heap.size nm (.bool true) := Holds1.new' (by simp) _
      have T5' : Turn (· = N) w4 (((w4.setCell ⟨N, 29, none⟩ (.map (some w4.heap.size))).setCell ⟨N, 50, none⟩ (.int .u64 (nv.c1 + 1))).alloc (mone nm (.bool true))) := (((Turn.refl (· = N) w4).setN rfl _ _).setN rfl _ _).alloc _
      have R5 := R4.turn T5' (R4.k.ne N4 (by decide)) (R4.v.ne N4 (by decide)) (R4.c.ne N4 (by decide))
      have b5 := T5'.blk b4 hBN
      have T5 := T4.trans (T5'.weak (fun _ h => Or.inl h))
      clear c0 c29 c50 f29 f50 T5'
      revert N5 R5 b5 T5 M5
      generalize ((w4.setCell ⟨N, 29, none⟩ (.map (some w4.heap.size))).setCell ⟨N, 50, none⟩ (.int .u64 (nv.c1 + 1))).alloc (mone nm (.bool true)) = w5
      generalize w4.heap.size = M
      intro N5 M5 R5 b5 T5
      clear N4 R4 b4 T4
      subst hnv4
      subst hnv
      obtain ⟨a0, a1, a2, _, _, _⟩ := b5.cells3
      go_wp2_with fail
      refine (reset_any N K V CB _ v cnt x s t et w5 N5 R5 hr ht hv hv1 hc hc1 hmw hmw1 he he1 htb).mono ?_
      rintro e w6 ⟨rfl, dx, ds, hdx, N6, R6, T6⟩
      have b6 := T6.blk b5 (by simp [hBN, hB])
      have M6 := T6.one M5 (by rintro (e | e); exact M5.nem N5 e; exact M5.nem R5.c e)
      obtain ⟨a0, a1, a2, _, _, _⟩ := b6.cells3
      have c32 : w6.cell? ⟨N, 32, none⟩ = some (.int .u64 0) := N6.cell 32 rfl
      have c29 : w6.cell? ⟨N, 29, none⟩ = some (.map (some M)) := N6.cell 29 rfl
      have c2 : w6.cell? ⟨N, 2, none⟩ = some (.int .i64 1) := by rw [← hq]; exact N6.cell 2 rfl
      have hl := run_len1 41 4 3 w6.drew M nm (.bool true) Yba.underlying41 M6
      go_upto_region 9 with fail
      go_region
      go_wp2_with fail
      refine (lead_any N G pc ao _ nm x s t le hb w6.drew N6.drew ht h0 hq hid hle hhb hhl (by omega) hm hp).mono ?_
      rintro e w7 ⟨rfl, L, A, v2, nx, ns, ex, es, gL, gA, hnx, hex, hL, ho, hN7, hA, T7⟩
      go_wp2_with fail
      have hsz : w.heap.size ≤ w6.drew.heap.size := (T5.trans T6).size
      have R6' := R6.turn (Turn.refl (fun _ => False) w6).drew id id id
      go_ret
      exact ⟨rfl, L, A, v2, nx, ns, ex, es, Nat.le_trans hsz gL, Nat.le_trans hsz gA, hnx, hex, hL, ho, hN7, hA, R6'.turn T7 (R6.k.ne N6 (by decide)) (R6.v.ne N6 (by decide)) (R6.c.ne N6 (by decide)), (T5.trans T6).drew.trans (T7.weak (fun _ h => Or.inl h))⟩
end Go.Proofs.Ybulkaubm

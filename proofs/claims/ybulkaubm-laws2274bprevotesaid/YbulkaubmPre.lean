import Derived.Test.YbulkaubmCamp
namespace Go.Proofs.Ybulkaubm
open Go.RowKit Go.ChangeMaps

/-- What a lone member's first tick behind the deadline leaves: it leads the next term. -/
def LoneP (w w' : World) (N K V CB : Nat) (v cnt : Int) (nv : NV) (nm : ByteArray) (x s : Int) (t le hb : Nat) : Prop :=
  ∃ L A v2 nx ns ex es rf, w.heap.size ≤ L ∧ w.heap.size ≤ A ∧ IsTm nx ns (t + hb) ∧ IsTm ex es (t + le) ∧
    Blk w' L { beats := v2, count := 1, acked := .map (some A), nx := nx, ns := ns, ex := ex, en := es, rx := x, rs := s : LV }.cells 56 ∧
    w'.ownsRow (L + 1) 59 4 v2 1 [.int .u64 1, .int .u64 x, .int .i64 s, .pointer none] ∧
    Blk w' N { nv with role := 2, term := nv.term + 1, votedFor := nm, leader := nm, votes := .map none, refused := rf, ax := x, ay := s, won := .pointer (some ⟨L, 0, none⟩), dx := nx, ds := ns, c0 := nv.c0 + 1, c1 := nv.c1 + 1 }.cells 49 ∧ One w' A nm (tval x s) ∧
    Rnd w' K V CB v (cnt + 1 + 1) ∧ Turn (fun b => b = N ∨ b = CB) w w'

set_option maxHeartbeats 2000000 in
theorem pre_lone (N K V CB G pc : Nat) (ao : Option Addr) (nv : NV) (nm : ByteArray) (v cnt x s : Int) (t et le hb : Nat) (w : World) (hN : Blk w N nv.cells 49) (h : Rnd w K V CB v cnt) (hr : nv.rnd = .func (.func 18) #[] #[.pointer (some ⟨K, 0, none⟩), .pointer (some ⟨V, 0, none⟩)])
    (ht : IsTm x s t) (h0 : 0 < t) (hv : 0 ≤ v) (hv1 : v < 4294967296) (hc : 0 ≤ cnt) (hc1 : cnt ≤ 99) (hmw : 0 < nv.mw) (hmw1 : nv.mw ≤ 1000000000) (he : nv.et = et) (he1 : et ≤ 1000000000) (htb : t ≤ 100000000000000)
    (hro : nv.role = 0) (hvo : nv.votes = .map none) (htm : 0 ≤ nv.term) (htm1 : nv.term < 18446744073709551615) (hw : nv.won = .pointer none) (hk0 : 0 ≤ nv.c0) (hk1 : nv.c0 ≤ 100) (hn0 : 0 ≤ nv.c1) (hn1 : nv.c1 ≤ 100)
    (hq : nv.quorum = 1) (hid : nv.id = nm) (hle : nv.lease = le) (hhb : nv.hb = hb) (hhl : hb ≤ le) (hlb : le ≤ 1000000000)
    (hm : nv.msgs = .slice (some ⟨G, 0, none⟩) 0 0) (hp : nv.peers = .slice ao 0 pc) :
    Calls Yba.prog 22 #[.pointer (some ⟨N, 0, none⟩), .agg #[.int .u64 x, .int .i64 s, .pointer none]] w fun e w' => e = .returned (.slice (some ⟨G, 0, none⟩) 0 0) ∧ LoneP w w' N K V CB v cnt nv nm x s t le hb := by
  have lN := hN.lt
  have b0 := Blk.new w #[.int .u64 x, .int .i64 s, .pointer none] 31
  have N1 := hN.alloc (.cells #[.int .u64 x, .int .i64 s, .pointer none] 31)
  have R1 := h.turn ((Turn.refl (fun _ => False) w).alloc (.cells #[.int .u64 x, .int .i64 s, .pointer none] 31)) id id id
  have T1 := (Turn.refl (fun b => b = N ∨ b = CB) w).alloc (.cells #[.int .u64 x, .int .i64 s, .pointer none] 31)
  go_enter Yba.func22, Yba.ntmps22
  go_upto_region 1 with fail
  revert b0 N1 R1 T1
  generalize w.alloc (.cells #[.int .u64 x, .int .i64 s, .pointer none] 31) = w1
  generalize w.heap.size = B
  intro b0 N1 R1 T1
  have hBN : B ≠ N := b0.ne N1 (by decide)
  have hB : B ≠ CB := b0.ne R1.c (by decide)
  have c9 : w1.cell? ⟨N, 9, none⟩ = some (.int .i64 nv.role) := N1.cell 9 rfl
  have c12 : w1.cell? ⟨N, 12, none⟩ = some (.string nv.leader) := N1.cell 12 rfl
  have f9 := N1.frozen 9
  have f12 := N1.frozen 12
  go_wp2_with fail
  refine (climbs_nil N nv w1 N1 hro hvo).mono ?_
  rintro e w' ⟨rfl, rfl⟩
  go_upto_region 4 with fail
  have N2 := (N1.role 0).leader ⟨#[]⟩
  have T2' : Turn (· = N) w1 ((w1.setCell ⟨N, 9, none⟩ (.int .i64 0)).setCell ⟨N, 12, none⟩ (.string ⟨#[]⟩)) := ((Turn.refl (· = N) w1).setN rfl _ _).setN rfl _ _
  have R2 := R1.turn T2' (R1.k.ne N1 (by decide)) (R1.v.ne N1 (by decide)) (R1.c.ne N1 (by decide))
  have b2 := T2'.blk b0 hBN
  have T2 := T1.trans (T2'.weak (fun _ h => Or.inl h))
  clear c9 c12 f9 f12 T2'
  revert N2 R2 b2 T2
  generalize (w1.setCell ⟨N, 9, none⟩ (.int .i64 0)).setCell ⟨N, 12, none⟩ (.string ⟨#[]⟩) = w2
  intro N2 R2 b2 T2
  clear N1 R1 b0 T1
  obtain ⟨a0, a1, a2, _, _, _⟩ := b2.cells3
  go_wp2_with fail
  refine (reset_any N K V CB _ v cnt x s t et w2 N2 R2 hr ht hv hv1 hc (by omega) hmw hmw1 he he1 htb).mono ?_
  rintro e w3 ⟨rfl, dx, ds, hdx, N3, R3, T3⟩
  have b3 := T3.blk b2 (by simp [hBN, hB])
  have T3' := T2.trans T3
  clear N2 R2 b2 T2 T3 a0 a1 a2
  obtain ⟨a0, a1, a2, _, _, _⟩ := b3.cells3
  have c10 : w3.cell? ⟨N, 10, none⟩ = some (.int .u64 nv.term) := N3.cell 10 rfl
  have hlt : ¬ nv.term = 18446744073709551615 := by omega
  go_wp2_with fail
  refine (hold_any N _ x s w3 N3 hk0 hk1).mono ?_
  rintro e w4 ⟨rfl, M, R, N4, M4, T4⟩
  have b4 := T4.blk b3 hBN
  have R4 := R3.turn T4 (R3.k.ne N3 (by decide)) (R3.v.ne N3 (by decide)) (R3.c.ne N3 (by decide))
  have T4' := T3'.trans (T4.weak (fun _ h => Or.inl h))
  clear a0 a1 a2 c10
  obtain ⟨a0, a1, a2, _, _, _⟩ := b4.cells3
  have c29 : w4.cell? ⟨N, 29, none⟩ = some (.map (some M)) := N4.cell 29 rfl
  have c2 : w4.cell? ⟨N, 2, none⟩ = some (.int .i64 1) := by rw [← hq]; exact N4.cell 2 rfl
  have hl := run_len1 41 4 3 w4.drew M nv.id (.bool true) Yba.underlying41 M4
  go_upto_region 9 with fail
  go_region
  go_wp2_with fail
  refine (camp_any N K V CB G pc ao _ nm v (cnt + 1) x s t et le hb w4.drew N4.drew (R4.turn (Turn.refl (fun _ => False) w4).drew id id id) hr ht h0 hv hv1 (by omega) (by omega) hmw hmw1 he he1 htb rfl rfl htm htm1 hw hn0 hn1 hq hid hle hhb hhl hlb hm hp).mono ?_
  rintro e w7 ⟨rfl, L, A, v2, nx, ns, ex, es, gL, gA, hnx, hex, hL, ho, hN7, hA, R7, T7⟩
  go_wp2_with fail
  have hsz : w.heap.size ≤ w4.drew.heap.size := T4'.size
  go_ret
  exact ⟨rfl, L, A, v2, nx, ns, ex, es, _, Nat.le_trans hsz gL, Nat.le_trans hsz gA, hnx, hex, hL, ho, hN7, hA, R7, T4'.drew.trans T7⟩
end Go.Proofs.Ybulkaubm

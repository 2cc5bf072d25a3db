import Derived.Test.YbulkaubmBroad
namespace Go.Proofs.Ybulkaubm
open Go.RowKit Go.ChangeMaps

/-- The last term there is: nothing is asked. -/
def LastP (w w' : World) (N K V CB : Nat) (v cnt : Int) (nv : NV) (t : Nat) : Prop :=
  ∃ x s, IsTm x s t ∧ Blk w' N { nv with role := 0, leader := ⟨#[]⟩, votes := .map none, dx := x, ds := s }.cells 49 ∧ Rnd w' K V CB v (cnt + 1) ∧ Turn (fun b => b = N ∨ b = CB) w w'

/-- A pre-vote that asks the peers. -/
def ManyP (w w' : World) (N K V CB : Nat) (v cnt : Int) (nv : NV) (nm : ByteArray) (ps : List ByteArray) (x s : Int) (t np : Nat) (ra : Option Addr) (rc : Nat) : Prop :=
  ∃ dx ds M R, IsTm dx ds t ∧ Blk w' N { nv with role := 0, leader := ⟨#[]⟩, votes := .map (some M), refused := .map (some R), ax := x, ay := s, dx := dx, ds := ds, c0 := nv.c0 + 1 }.cells 49 ∧ One w' M nm (.bool true) ∧
    w'.ownsRow (N + 1) 40 8 (.slice ra np rc) np (msgsOf 5 nm (nv.term + 1) 0 ps) ∧ Rnd w' K V CB v (cnt + 1) ∧ Turn (fun b => b = N ∨ b = CB ∨ T40 (N + 1) w b) w w'

set_option maxHeartbeats 2000000 in
theorem pre_last (N K V CB : Nat) (nv : NV) (v cnt x s : Int) (t et : Nat) (w : World) (hN : Blk w N nv.cells 49) (h : Rnd w K V CB v cnt) (hr : nv.rnd = .func (.func 18) #[] #[.pointer (some ⟨K, 0, none⟩), .pointer (some ⟨V, 0, none⟩)])
    (ht : IsTm x s t) (hv : 0 ≤ v) (hv1 : v < 4294967296) (hc : 0 ≤ cnt) (hc1 : cnt ≤ 99) (hmw : 0 < nv.mw) (hmw1 : nv.mw ≤ 1000000000) (he : nv.et = et) (he1 : et ≤ 1000000000) (htb : t ≤ 100000000000000)
    (hro : nv.role = 0) (hvo : nv.votes = .map none) (htm : nv.term = 18446744073709551615) :
    Calls Yba.prog 22 #[.pointer (some ⟨N, 0, none⟩), .agg #[.int .u64 x, .int .i64 s, .pointer none]] w fun e w' => e = .returned (.slice none 0 0) ∧ LastP w w' N K V CB v cnt nv (t + (et + (v % nv.mw).toNat)) := by
  have lN := hN.lt
  have b0 := Blk.new w #[.int .u64 x, .int .i64 s, .pointer none] 31
  have N1 := hN.alloc (.cells #[.int .u64 x, .int .i64 s, .pointer none] 31)
  have R1 := h.turn ((Turn.refl (fun _ => False) w).alloc (.cells #[.int .u64 x, .int .i64 s, .pointer none] 31)) id id id
  have T1 := (Turn.refl (fun b => b = N ∨ b = CB) w).alloc (.cells #[.int .u64 x, .int .i64 s, .pointer none] 31)
  go_enter Yba.func22, Yba.ntmps22
  go_upto_region 1 with fail
  revert b0 N1 R1 T1
  generalize w.alloc (.cells #[.int .u64 x, .int .i64 s, .pointer none] 31) = w1
  generalize w.heap.size = B
  intro b0 N1 R1 T1
  have hBN : B ≠ N := b0.ne N1 (by decide)
  have hB : B ≠ CB := b0.ne R1.c (by decide)
  have c9 : w1.cell? ⟨N, 9, none⟩ = some (.int .i64 nv.role) := N1.cell 9 rfl
  have c12 : w1.cell? ⟨N, 12, none⟩ = some (.string nv.leader) := N1.cell 12 rfl
  have f9 := N1.frozen 9
  have f12 := N1.frozen 12
  go_wp2_with fail
  refine (climbs_nil N nv w1 N1 hro hvo).mono ?_
  rintro e w' ⟨rfl, rfl⟩
  go_upto_region 4 with fail
  have N2 := (N1.role 0).leader ⟨#[]⟩
  have T2' : Turn (· = N) w1 ((w1.setCell ⟨N, 9, none⟩ (.int .i64 0)).setCell ⟨N, 12, none⟩ (.string ⟨#[]⟩)) := ((Turn.refl (· = N) w1).setN rfl _ _).setN rfl _ _
  have R2 := R1.turn T2' (R1.k.ne N1 (by decide)) (R1.v.ne N1 (by decide)) (R1.c.ne N1 (by decide))
  have b2 := T2'.blk b0 hBN
  have T2 := T1.trans (T2'.weak (fun _ h => Or.inl h))
  clear c9 c12 f9 f12 T2'
  revert N2 R2 b2 T2
  generalize (w1.setCell ⟨N, 9, none⟩ (.int .i64 0)).setCell ⟨N, 12, none⟩ (.string ⟨#[]⟩) = w2
  intro N2 R2 b2 T2
  clear N1 R1 b0 T1
  obtain ⟨a0, a1, a2, _, _, _⟩ := b2.cells3
  go_wp2_with fail
  refine (reset_any N K V CB _ v cnt x s t et w2 N2 R2 hr ht hv hv1 hc (by omega) hmw hmw1 he he1 htb).mono ?_
  rintro e w3 ⟨rfl, dx, ds, hdx, N3, R3, T3⟩
  have b3 := T3.blk b2 (by simp [hBN, hB])
  have T3' := T2.trans T3
  clear N2 R2 b2 T2 T3 a0 a1 a2
  obtain ⟨a0, a1, a2, _, _, _⟩ := b3.cells3
  have T3 := T3'
  have c10 : w3.cell? ⟨N, 10, none⟩ = some (.int .u64 18446744073709551615) := by rw [← htm]; exact N3.cell 10 rfl
  have c29 : w3.cell? ⟨N, 29, none⟩ = some nv.votes := N3.cell 29 rfl
  have c31 : w3.cell? ⟨N, 31, none⟩ = some (.string ⟨#[]⟩) := N3.cell 31 rfl
  have c32 : w3.cell? ⟨N, 32, none⟩ = some (.int .u64 0) := N3.cell 32 rfl
  have c33 : w3.cell? ⟨N, 33, none⟩ = some (.int .u64 0) := N3.cell 33 rfl
  have c34 : w3.cell? ⟨N, 34, none⟩ = some (.int .i64 0) := N3.cell 34 rfl
  have c35 : w3.cell? ⟨N, 35, none⟩ = some (.pointer none) := N3.cell 35 rfl
  have f29 := N3.frozen 29
  have f31 := N3.frozen 31
  have f32 := N3.frozen 32
  have f33 := N3.frozen 33
  have f34 := N3.frozen 34
  have f35 := N3.frozen 35
  have lN3 := N3.lt
  go_wp2_with fail
  go_ret
  have TN : Turn (· = N) w3 ((((((w3.setCell ⟨N, 29, none⟩ (.map none)).setCell ⟨N, 31, none⟩ (.string ⟨#[]⟩)).setCell ⟨N, 32, none⟩ (.int .u64 0)).setCell ⟨N, 33, none⟩ (.int .u64 0)).setCell ⟨N, 34, none⟩ (.int .i64 0)).setCell ⟨N, 35, none⟩ (.pointer none)) :=
    ((((((Turn.refl (· = N) w3).setN rfl _ _).setN rfl _ _).setN rfl _ _).setN rfl _ _).setN rfl _ _).setN rfl _ _
  exact ⟨rfl, dx, ds, hdx, (((((N3.votes _).k31).k32).k33).k34).k35, R3.turn TN (R3.k.ne N3 (by decide)) (R3.v.ne N3 (by decide)) (R3.c.ne N3 (by decide)), T3.trans (TN.weak (fun _ h => Or.inl h))⟩

set_option maxHeartbeats 2000000 in
theorem pre_many (N K V CB G np pc : Nat) (ao : Option Addr) (nv : NV) (nm : ByteArray) (ps : List ByteArray) (v cnt x s : Int) (t et : Nat) (w : World) (hN : Blk w N nv.cells 49) (h : Rnd w K V CB v cnt) (hr : nv.rnd = .func (.func 18) #[] #[.pointer (some ⟨K, 0, none⟩), .pointer (some ⟨V, 0, none⟩)])
    (ht : IsTm x s t) (hv : 0 ≤ v) (hv1 : v < 4294967296) (hc : 0 ≤ cnt) (hc1 : cnt ≤ 99) (hmw : 0 < nv.mw) (hmw1 : nv.mw ≤ 1000000000) (he : nv.et = et) (he1 : et ≤ 1000000000) (htb : t ≤ 100000000000000)
    (hro : nv.role = 0) (hvo : nv.votes = .map none) (htm : 0 ≤ nv.term) (htm1 : nv.term < 18446744073709551615) (hk0 : 0 ≤ nv.c0) (hk1 : nv.c0 ≤ 100)
    (hq : 1 < nv.quorum) (hid : nv.id = nm) (hm : nv.msgs = .slice (some ⟨G, 0, none⟩) 0 np) (hp : nv.peers = .slice ao np pc) (hpl : ps.length = np) (hnp : np ≤ 8)
    (hpe : w.ownsRow (N + 1) 9 1 (.slice ao np pc) np (ps.map Value.string)) (hms : w.ownsRow (N + 1) 40 8 (.slice (some ⟨G, 0, none⟩) 0 np) 0 []) (hCB : CB ≤ N) :
    Calls Yba.prog 22 #[.pointer (some ⟨N, 0, none⟩), .agg #[.int .u64 x, .int .i64 s, .pointer none]] w fun e w' => ∃ ra rc, e = .returned (.slice ra np rc) ∧ ManyP w w' N K V CB v cnt nv nm ps x s (t + (et + (v % nv.mw).toNat)) np ra rc := by
  have lN := hN.lt
  have b0 := Blk.new w #[.int .u64 x, .int .i64 s, .pointer none] 31
  have N1 := hN.alloc (.cells #[.int .u64 x, .int .i64 s, .pointer none] 31)
  have R1 := h.turn ((Turn.refl (fun _ => False) w).alloc (.cells #[.int .u64 x, .int .i64 s, .pointer none] 31)) id id id
  have T1 := (Turn.refl (fun b => b = N ∨ b = CB) w).alloc (.cells #[.int .u64 x, .int .i64 s, .pointer none] 31)
  go_enter Yba.func22, Yba.ntmps22
  go_upto_region 1 with fail
  revert b0 N1 R1 T1
  generalize w.alloc (.cells #[.int .u64 x, .int .i64 s, .pointer none] 31) = w1
  generalize w.heap.size = B
  intro b0 N1 R1 T1
  have hBN : B ≠ N := b0.ne N1 (by decide)
  have hB : B ≠ CB := b0.ne R1.c (by decide)
  have c9 : w1.cell? ⟨N, 9, none⟩ = some (.int .i64 nv.role) := N1.cell 9 rfl
  have c12 : w1.cell? ⟨N, 12, none⟩ = some (.string nv.leader) := N1.cell 12 rfl
  have f9 := N1.frozen 9
  have f12 := N1.frozen 12
  go_wp2_with fail
  refine (climbs_nil N nv w1 N1 hro hvo).mono ?_
  rintro e w' ⟨rfl, rfl⟩
  go_upto_region 4 with fail
  have N2 := (N1.role 0).leader ⟨#[]⟩
  have T2' : Turn (· = N) w1 ((w1.setCell ⟨N, 9, none⟩ (.int .i64 0)).setCell ⟨N, 12, none⟩ (.string ⟨#[]⟩)) := ((Turn.refl (· = N) w1).setN rfl _ _).setN rfl _ _
  have R2 := R1.turn T2' (R1.k.ne N1 (by decide)) (R1.v.ne N1 (by decide)) (R1.c.ne N1 (by decide))
  have b2 := T2'.blk b0 hBN
  have T2 := T1.trans (T2'.weak (fun _ h => Or.inl h))
  clear c9 c12 f9 f12 T2'
  revert N2 R2 b2 T2
  generalize (w1.setCell ⟨N, 9, none⟩ (.int .i64 0)).setCell ⟨N, 12, none⟩ (.string ⟨#[]⟩) = w2
  intro N2 R2 b2 T2
  clear N1 R1 b0 T1
  obtain ⟨a0, a1, a2, _, _, _⟩ := b2.cells3
  go_wp2_with fail
  refine (reset_any N K V CB _ v cnt x s t et w2 N2 R2 hr ht hv hv1 hc (by omega) hmw hmw1 he he1 htb).mono ?_
  rintro e w3 ⟨rfl, dx, ds, hdx, N3, R3, T3⟩
  have b3 := T3.blk b2 (by simp [hBN, hB])
  have T3' := T2.trans T3
  clear N2 R2 b2 T2 T3 a0 a1 a2
  obtain ⟨a0, a1, a2, _, _, _⟩ := b3.cells3
  have c10 : w3.cell? ⟨N, 10, none⟩ = some (.int .u64 nv.term) := N3.cell 10 rfl
  have hlt : ¬ nv.term = 18446744073709551615 := by omega
  go_wp2_with fail
  refine (hold_any N _ x s w3 N3 hk0 hk1).mono ?_
  rintro e w4 ⟨rfl, M, R, N4, M4, T4⟩
  have b4 := T4.blk b3 hBN
  have R4 := R3.turn T4 (R3.k.ne N3 (by decide)) (R3.v.ne N3 (by decide)) (R3.c.ne N3 (by decide))
  have T4' := T3'.trans (T4.weak (fun _ h => Or.inl h))
  clear a0 a1 a2 c10
  obtain ⟨a0, a1, a2, _, _, _⟩ := b4.cells3
  have c29 : w4.cell? ⟨N, 29, none⟩ = some (.map (some M)) := N4.cell 29 rfl
  have c2 : w4.cell? ⟨N, 2, none⟩ = some (.int .i64 nv.quorum) := N4.cell 2 rfl
  have c10 : w4.cell? ⟨N, 10, none⟩ = some (.int .u64 nv.term) := N4.cell 10 rfl
  have hl := run_len1 41 4 3 w4.drew M nv.id (.bool true) Yba.underlying41 M4
  have hq' : ¬ nv.quorum ≤ 1 := by omega
  have HW : IntKind.u64.wrap (nv.term + 1) = nv.term + 1 := by rw [IntKind.wrap_u64]; omega
  go_upto_region 9 with fail
  go_region
  go_upto_if 49 with fail
  rw [show decide (nv.quorum ≤ 1) = false from decide_eq_false (by omega)]
  go_wp2_with fail
  have e4 : w4.drew.ownsRow (N + 1) 9 1 (.slice ao np pc) np (ps.map Value.string) := ownsRow_turn hpe T4'.drew (fun g hg => by omega)
  have m4 : w4.drew.ownsRow (N + 1) 40 8 (.slice (some ⟨G, 0, none⟩) 0 np) 0 [] := ownsRow_turn hms T4'.drew (fun g hg => by omega)
  refine (broad_any N G np pc ao _ nm ps 5 (nv.term + 1) 0 w4.drew N4.drew hid hm hp hpl hnp e4 m4).mono ?_
  rintro e w7 ⟨ra, rc, rfl, ho, T7⟩
  go_wp2_with fail
  go_ret
  have R4' := R4.turn (Turn.refl (fun _ => False) w4).drew id id id
  refine ⟨ra, rc, rfl, dx, ds, M, R, hdx, T7.blk N4.drew (T40.notBlk N4.drew (by decide)), ?_, ho, R4'.turn T7 (T40.notBlk R4'.k (by decide)) (T40.notBlk R4'.v (by decide)) (T40.notBlk R4'.c (by decide)), ?_⟩
  · rw [← hid]
    exact T7.one (Holds1.drew M4) (T40.notMap (Holds1.drew M4))
  · refine (T4'.drew.weak (fun b h => h.elim Or.inl (fun e => Or.inr (Or.inl e)))).then T7 ?_
    rintro i ⟨hge, cur, hi⟩
    by_cases hlt : i < w.heap.size
    · refine Or.inl ?_
      by_cases h1 : i = N ∨ i = CB
      · exact h1.elim Or.inl (fun e => Or.inr (Or.inl e))
      · exact Or.inr (Or.inr ⟨hge, cur, (T4'.drew.block i hlt h1).symm.trans hi⟩)
    · exact Or.inr (by omega)

set_option maxHeartbeats 1000000 in
/-- tick behind the deadline, of a member that has not won: preCampaign. -/
theorem tick_pre2 (N : Nat) (nv : NV) (x s : Int) (t d : Nat) (w : World) (hN : Blk w N nv.cells 49) (ht : IsTm x s t) (hd : IsTm nv.dx nv.ds d) (hge : d ≤ t) (hw : nv.won = .pointer none) (rn : Nat) (Q : Option Addr → Nat → World → Prop)
    (HQ : ∀ w1, Turn (fun _ => False) w w1 → Calls Yba.prog 22 #[.pointer (some ⟨N, 0, none⟩), .agg #[.int .u64 x, .int .i64 s, .pointer none]] w1 fun e w' => ∃ ra rc, e = .returned (.slice ra rn rc) ∧ Q ra rc w') :
    Calls Yba.prog 12 #[.pointer (some ⟨N, 0, none⟩), .agg #[.int .u64 x, .int .i64 s, .pointer none]] w fun e w' => ∃ ra rc, e = .returned (.slice ra rn rc) ∧ Q ra rc w' := by
  have lN := hN.lt
  have b0 := Blk.new w #[.int .u64 x, .int .i64 s, .pointer none] 31
  have hN1 := hN.alloc (.cells #[.int .u64 x, .int .i64 s, .pointer none] 31)
  have t1 := (Turn.refl (fun _ => False) w).alloc (.cells #[.int .u64 x, .int .i64 s, .pointer none] 31)
  obtain ⟨dx, hdx⟩ : ∃ dx, nv.dx = dx := ⟨_, rfl⟩
  obtain ⟨ds, hds⟩ : ∃ ds, nv.ds = ds := ⟨_, rfl⟩
  rw [hdx, hds] at hd
  have HDD : Hid (nv.dx = dx ∧ nv.ds = ds) := ⟨hdx, hds⟩
  have HB : Hid (decide (t < d) = false) := decide_eq_false (by omega)
  clear hdx hds hge
  go_enter Yba.func12, Yba.ntmps12
  go_wp2_with fail
  revert b0 hN1 t1
  generalize w.alloc (.cells #[.int .u64 x, .int .i64 s, .pointer none] 31) = w1
  generalize w.heap.size = B
  intro b0 hN1 t1
  obtain ⟨a0, a1, a2, _, _, _⟩ := b0.cells3
  have n0 : w1.cell? ⟨N, 43, none⟩ = some (.int .u64 dx) := by rw [← HDD.out.1]; exact hN1.cell 43 rfl
  have n1 : w1.cell? ⟨N, 44, none⟩ = some (.int .i64 ds) := by rw [← HDD.out.2]; exact hN1.cell 44 rfl
  have n2 : w1.cell? ⟨N, 45, none⟩ = some (.pointer none) := hN1.cell 45 rfl
  go_region_with (go_at_call 21; refine (before_any x s dx ds t d false _ ht hd HB.out).mono ?_; rintro e w2 ⟨rfl, ht2⟩)
  all_goals
    have N2 := ht2.blk hN1.drew id
    have b2 := ht2.blk b0.drew id
    clear a0 a1 a2 n0 n1 n2
    obtain ⟨a0, a1, a2, _, _, _⟩ := b2.cells3
    have c42 : w2.cell? ⟨N, 42, none⟩ = some (.pointer none) := by rw [← hw]; exact N2.cell 42 rfl
    go_wp2_with fail
    refine (HQ w2 (t1.drew.trans ht2)).mono ?_
    rintro e w3 ⟨ra, rc, rfl, hq⟩
    go_wp2_with fail
    go_ret
    exact ⟨ra, rc, rfl, hq⟩

end Go.Proofs.Ybulkaubm

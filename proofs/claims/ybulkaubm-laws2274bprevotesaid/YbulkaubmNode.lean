import Derived.Test.YbulkaubmTime3
import Derived.Deep.RegionHeld3
import Derived.Deep.DrawnRows
import Derived.Deep.DeepCutAuto
import Derived.Laws.EntriesVeiled
namespace Go.Proofs.Ybulkaubm
open Go.RowKit

/-- The empty string, as the program's text has it. -/
def es : Value := .string ⟨#[]⟩

/-- What of a Node turns on these roads. -/
structure NV where
  id : ByteArray
  peers : Value
  quorum : Int
  hb : Int
  et : Int
  lease : Int
  mw : Int
  rnd : Value
  role : Int
  term : Int
  votedFor : ByteArray
  leader : ByteArray
  gx : Int
  gs : Int
  fx : Int
  fs : Int
  votes : Value
  refused : Value
  ax : Int
  ay : Int
  won : Value
  dx : Int
  ds : Int
  msgs : Value
  c0 : Int
  c1 : Int

/-- The Node's 55 cells. -/
def NV.cells (n : NV) : Array Value :=
  #[.string n.id, n.peers, .int .i64 n.quorum, .int .i64 n.hb, .int .i64 n.et, .int .i64 n.lease, .int .i64 n.mw, n.rnd, .string ⟨#[]⟩, .int .i64 n.role, .int .u64 n.term, .string n.votedFor, .string n.leader, .int .u64 0, .string ⟨#[]⟩,
    .int .u64 n.gx, .int .i64 n.gs, .pointer none, .int .u64 n.fx, .int .i64 n.fs, .pointer none,
    .int .u8 0, .string ⟨#[]⟩, .string ⟨#[]⟩, .int .u64 0, .bool false, .int .u64 0, .int .i64 0, .string ⟨#[]⟩,
    n.votes, n.refused, .string ⟨#[]⟩, .int .u64 0, .int .u64 0, .int .i64 0, .pointer none, .int .u64 n.ax, .int .i64 n.ay, .pointer none, .bool false, .int .i64 0, .int .i64 0,
    n.won, .int .u64 n.dx, .int .i64 n.ds, .pointer none, .int .i64 0, n.msgs, .int .i64 0, .int .u64 n.c0, .int .u64 n.c1, .int .u64 0, .int .u64 0, .int .u64 0, .string ⟨#[]⟩]

/-- The closure's memory: its box of '*int', its box of vRaw, the counter. -/
structure Rnd (w : World) (K V CB : Nat) (v cnt : Int) : Prop where
  k : Blk w K #[.pointer (some ⟨CB, 0, none⟩)] 35
  v : Blk w V #[.int .u32 v] 22
  c : Blk w CB #[.int .i64 cnt] 3

theorem Rnd.turn {S : Nat → Prop} {w w' : World} {K V CB : Nat} {v cnt : Int} (h : Rnd w K V CB v cnt) (ht : Turn S w w') (h1 : ¬ S K) (h2 : ¬ S V) (h3 : ¬ S CB) : Rnd w' K V CB v cnt :=
  ⟨ht.blk h.k h1, ht.blk h.v h2, ht.blk h.c h3⟩
theorem Rnd.turnC {w w' : World} {K V CB : Nat} {v cnt c' : Int} (h : Rnd w K V CB v cnt) (ht : Turn (· = CB) w w') (hc : Blk w' CB #[.int .i64 c'] 3) : Rnd w' K V CB v c' :=
  ⟨ht.blk h.k (h.k.ne h.c (by decide)), ht.blk h.v (h.v.ne h.c (by decide)), hc⟩

set_option maxHeartbeats 400000 in
theorem rnd_any (K V CB : Nat) (v cnt mx : Int) (w : World) (h : Rnd w K V CB v cnt) (hv : 0 ≤ v) (hv1 : v < 4294967296) (hc : 0 ≤ cnt) (hc1 : cnt ≤ 100) (hm : 0 < mx) (hm1 : mx ≤ 1000000000) :
    Calls Yba.prog 18 #[.int .i64 mx, .pointer (some ⟨K, 0, none⟩), .pointer (some ⟨V, 0, none⟩)] w fun e w' => e = .returned (.int .i64 (v % mx)) ∧ Rnd w' K V CB v (cnt + 1) ∧ Turn (· = CB) w w' := by
  have a1 : w.cell? ⟨K, 0, none⟩ = some (.pointer (some ⟨CB, 0, none⟩)) := h.k.cell 0 rfl
  have a2 : w.cell? ⟨V, 0, none⟩ = some (.int .u32 v) := h.v.cell 0 rfl
  have a3 : w.cell? ⟨CB, 0, none⟩ = some (.int .i64 cnt) := h.c.cell 0 rfl
  have f3 := h.c.frozen 0
  have hn : CB ≠ V := fun e => h.c.ne h.v (by decide) e
  have hw : IntKind.i64.wrap (cnt + 1) = cnt + 1 := by rw [IntKind.wrap_i64]; omega
  go_enter Yba.func18, Yba.ntmps18
  go_wp2
  go_region
  all_goals go_wp2
  all_goals go_ret
  all_goals
    have ht : Turn (· = CB) w (w.setCell ⟨CB, 0, none⟩ (.int .i64 (cnt + 1))).drew := ((Turn.refl (· = CB) w).set (p := ⟨CB, 0, none⟩) (Or.inl rfl) _).drew
    exact ⟨rfl, h.turnC ht (h.c.set 0 _), ht⟩

theorem n467 {w : World} {N : Nat} {nv : NV} {et mw : Int} {r : Value} (h : Blk w N nv.cells 49) (he : nv.et = et) (hm : nv.mw = mw) (hr : nv.rnd = r) :
    w.cell? ⟨N, 4, none⟩ = some (.int .i64 et) ∧ w.cell? ⟨N, 6, none⟩ = some (.int .i64 mw) ∧ w.cell? ⟨N, 7, none⟩ = some r := by
  subst he hm hr
  exact ⟨h.cell 4 rfl, h.cell 6 rfl, h.cell 7 rfl⟩

/-- A cell beside the three of a time that is stored. -/
theorem keep3 {w : World} {N k : Nat} {p : Addr} {v a b c : Value} (h : w.cell? p = some v) (hp : p.block = N → p.off ≠ k ∧ p.off ≠ k + 1 ∧ p.off ≠ k + 1 + 1) :
    (((w.setCell ⟨N, k, none⟩ a).setCell ⟨N, k + 1, none⟩ b).setCell ⟨N, k + 1 + 1, none⟩ c).cell? p = some v := by
  rw [World.cell?_setCell_other _ _ _ _ (fun e => by subst e; have := hp rfl; simp at this), World.cell?_setCell_other _ _ _ _ (fun e => by subst e; have := hp rfl; simp at this), World.cell?_setCell_other _ _ _ _ (fun e => by subst e; have := hp rfl; simp at this)]
  exact h

/-- resetElectionTimer sets the deadline, and draws once. -/
def Reset (w w' : World) (N K V CB : Nat) (v cnt : Int) (nv : NV) (t : Nat) : Prop :=
  ∃ x s, IsTm x s t ∧ Blk w' N { nv with dx := x, ds := s }.cells 49 ∧ Rnd w' K V CB v (cnt + 1) ∧ Turn (fun b => b = N ∨ b = CB) w w'

set_option maxHeartbeats 1000000 in
theorem reset_any (N K V CB : Nat) (nv : NV) (v cnt x s : Int) (t et : Nat) (w : World) (hN : Blk w N nv.cells 49) (h : Rnd w K V CB v cnt) (hr : nv.rnd = .func (.func 18) #[] #[.pointer (some ⟨K, 0, none⟩), .pointer (some ⟨V, 0, none⟩)])
    (ht : IsTm x s t) (hv : 0 ≤ v) (hv1 : v < 4294967296) (hc : 0 ≤ cnt) (hc1 : cnt ≤ 100) (hm : 0 < nv.mw) (hm1 : nv.mw ≤ 1000000000) (he : nv.et = et) (he1 : et ≤ 1000000000) (htb : t ≤ 100000000000000) :
    Calls Yba.prog 27 #[.pointer (some ⟨N, 0, none⟩), .agg #[.int .u64 x, .int .i64 s, .pointer none]] w fun e w' => e = .returned (.tuple #[]) ∧ Reset w w' N K V CB v cnt nv (t + (et + (v % nv.mw).toNat)) := by
  have lN := hN.lt
  have b0 := Blk.new w #[.int .u64 x, .int .i64 s, .pointer none] 31
  have hN1 := hN.alloc (.cells #[.int .u64 x, .int .i64 s, .pointer none] 31)
  have h1 := h.turn ((Turn.refl (fun _ => False) w).alloc (.cells #[.int .u64 x, .int .i64 s, .pointer none] 31)) id id id
  have t1 := (Turn.refl (fun b => b = N ∨ b = CB) w).alloc (.cells #[.int .u64 x, .int .i64 s, .pointer none] 31)
  have hne : N ≠ CB := hN.ne h.c (by decide)
  obtain ⟨mw, hmw⟩ : ∃ mw, nv.mw = mw := ⟨_, rfl⟩
  rw [hmw] at hm hm1
  obtain ⟨ra, hra⟩ : ∃ ra : Nat, v % mw = (ra : Int) := ⟨(v % mw).toNat, by have := Int.emod_nonneg v (show mw ≠ 0 by omega); omega⟩
  have hra1 : ra < 1000000001 := by have := Int.emod_lt_of_pos v hm; omega
  go_enter Yba.func27, Yba.ntmps27
  go_wp2_with fail
  revert b0 hN1 h1 t1
  generalize w.alloc (.cells #[.int .u64 x, .int .i64 s, .pointer none] 31) = w1
  generalize w.heap.size = B
  intro b0 hN1 h1 t1
  obtain ⟨a0, a1, a2, _, _, _⟩ := b0.cells3
  obtain ⟨n4, n6, n7⟩ := n467 hN1 he hmw hr
  have hBN : B ≠ N := b0.ne hN1 (by decide)
  have hB : B ≠ CB := b0.ne h1.c (by decide)
  have HW : IntKind.i64.wrap ((et : Int) + ra) = (et : Int) + ra := by rw [IntKind.wrap_i64]; omega
  have HE : Hid (nv.et = et ∧ nv.mw = mw) := ⟨he, hmw⟩
  clear he hmw hN
  go_region_held3 (fun w' => w'.cell? ⟨B, 0, none⟩ = some (.int .u64 x) ∧ w'.cell? ⟨B, 1, none⟩ = some (.int .i64 s) ∧ w'.cell? ⟨B, 2, none⟩ = some (.pointer none) ∧ w'.cell? ⟨N, 4, none⟩ = some (.int .i64 et) ∧ w'.cell? ⟨N, 6, none⟩ = some (.int .i64 mw) ∧ w'.cell? ⟨N, 7, none⟩ = some (.func (.func 18) #[] #[.pointer (some ⟨K, 0, none⟩), .pointer (some ⟨V, 0, none⟩)])) (first | go_keep | (refine ⟨keep3 a0' (fun e => absurd e hBN), keep3 a1' (fun e => absurd e hBN), keep3 a2' (fun e => absurd e hBN), keep3 n4' (fun _ => by simp), keep3 n6' (fun _ => by simp), keep3 n7' (fun _ => by simp)⟩))
    (first
      | (go_at_call 18; refine (rnd_any K V CB v cnt mw _ (by exact h1.turn (Turn.refl (fun _ => False) w1).drew id id id) hv hv1 hc hc1 hm hm1).mono ?_; rintro e w2 ⟨rfl, hR2, ht2⟩; rw [hra]; have N2 := ht2.blk hN1.drew hne; have B2 := ht2.blk b0.drew hB; have T2 := t1.drew.trans (ht2.weak (fun b e => Or.inr e)); obtain ⟨a0', a1', a2', _, _, _⟩ := B2.cells3; obtain ⟨n4', n6', n7'⟩ := n467 N2 HE.out.1 HE.out.2 hr)
      | (go_at_call 9; refine (add_any x s t (et + ra) _ ht (by omega)).mono ?_; rintro e w3 ⟨x', s', rfl, hx', ht3⟩; have N3 := ht3.blk N2 id; obtain ⟨a0', a1', a2', _, _, _⟩ := (ht3.blk B2 id).cells3; obtain ⟨n4', n6', n7'⟩ := n467 N3 HE.out.1 HE.out.2 hr; have d0 : w3.cell? ⟨N, 43, none⟩ = some (.int .u64 nv.dx) := N3.cell 43 rfl; have d1 : w3.cell? ⟨N, 44, none⟩ = some (.int .i64 nv.ds) := N3.cell 44 rfl; have d2 : w3.cell? ⟨N, 45, none⟩ = some (.pointer none) := N3.cell 45 rfl; have g0 := N3.frozen 43; have g1 := N3.frozen 44; have g2 := N3.frozen 45))
  go_end0
  have TN : Turn (· = N) w3 (((w3.setCell ⟨N, 43, none⟩ (.int .u64 x')).setCell ⟨N, 44, none⟩ (.int .i64 s')).setCell ⟨N, 45, none⟩ (.pointer none)) :=
    ((((Turn.refl (· = N) w3).set (p := ⟨N, 43, none⟩) (Or.inl rfl) _).set (p := ⟨N, 44, none⟩) (Or.inl rfl) _).set (p := ⟨N, 45, none⟩) (Or.inl rfl) _)
  have R3 := hR2.turn ht3 id id id
  rw [HE.out.2, hra, Int.toNat_natCast]
  exact ⟨rfl, x', s', hx', ((N3.set 43 _).set 44 _).set 45 _, R3.turn TN (R3.k.ne N3 (by decide)) (R3.v.ne N3 (by decide)) (R3.c.ne N3 (by decide)), (T2.trans (ht3.weak (fun _ h => h.elim))).trans (TN.weak (fun b e => Or.inl e))⟩

end Go.Proofs.Ybulkaubm
